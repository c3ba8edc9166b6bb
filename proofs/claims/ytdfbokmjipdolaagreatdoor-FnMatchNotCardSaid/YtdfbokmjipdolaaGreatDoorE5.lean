/- The light parser's read: a text without the mark of hexadecimal. -/
import Derived.Test.YtdfbokmjipdolaaGreatDoorE6E
set_option linter.unusedVariables false
set_option linter.unusedSimpArgs false
namespace Go.Proofs.YtdfbokmjipdolaaGreatDoor
open Go.RowKit

set_option maxRecDepth 100000 in
theorem trim_nilW (w : World) (b : Nat) (dp : Int) (h : w.heap[b]? = some (.cells #[.slice none 0 0, .int .i64 dp] 157 (0, 0))) :
    Calls Tryz.prog 86 #[.pointer (some ⟨b, 0, none⟩)] w fun e w' => e = .returned (.pointer (some ⟨b, 0, none⟩)) ∧ LE w' b 0 ∧ Fr b w w' := by
  have c0 : w.cell? ⟨b, 0, none⟩ = some (.slice none 0 0) := by rw [cell_of_row w b 0 _ 157 (0, 0) h]; rfl
  have c1 : w.cell? ⟨b, 1, none⟩ = some (.int .i64 dp) := by rw [cell_of_row w b 1 _ 157 (0, 0) h]; rfl
  have f1 : w.frozen? ⟨b, 1, none⟩ = false := frozen_of_row w b 1 _ 157 h
  have H := Lib.hid h
  clear h
  go_enter Tryz.func86, Tryz.ntmps86
  go_wp2_with fail
  go_loopg [] 1 (fun gm wx => wx = w)
  case atStart => exact rfl
  case round =>
    subst hrel
    go_wp2_with fail
    go_quiet (fail)
    go_wp2_with fail
    go_ret
    refine ⟨rfl, ⟨_, ?_, Or.inl rfl⟩, Fr.set (Fr.dr (Fr.refl _ _) _) _ _⟩
    rw [heap_setCell_same _ b 1 _ 157 _ (show (World.drewN _ _).heap[b]? = _ from H.out)]
    rfl
set_option maxRecDepth 100000 in
set_option maxHeartbeats 8000000 in
theorem read_dec (s : ByteArray) (w : World) (hs : s.size ≤ 400) (hx : lhex (bsN s) = false) : Calls Tryz.prog 53 #[.string s] w (RDPost (bsN s) w) := by
  obtain ⟨i0, hi, hz0, hz1, hz2⟩ := info_parts info5
  have HX := Lib.hid hx
  have hF : lF (bsN s) = mRun false (bsN s) .start := by unfold lF lbody; rw [hx]; rfl
  obtain ⟨FIN, hFe⟩ : ∃ FIN, FIN = lF (bsN s) := ⟨_, rfl⟩
  have HFe := Lib.hid hFe
  rw [← hFe] at hF
  have HF := Lib.hid hF
  clear hx hFe hF
  go_enter Tryz.func53, Tryz.ntmps53
  go_upto_region 2 with fail
  go_cut [5] (fun v w1 => v = .bool false ∧ w1 = w.alloc (.cells #[.slice none 0 0, .int .i64 0] 157))
  case first =>
    as_aux_lemma =>
      go_wp2_with (go_at_call 85; refine (lower85_any _ _ (UInt8.toNat_lt _)).mono ?_; rintro e w' ⟨rfl, rfl⟩)
      all_goals
        go_meet
        refine ⟨vb ?_, rfl⟩
        first
          | rfl
          | (rw [← HX.out, lhex_long (by omega), Bool.eq_iff_iff]; simp; omega)
  case rest =>
    obtain ⟨rfl, rfl⟩ := hcut
    go_upto_block 0 with fail
    go_cut [7, 8, 9, 10, 11] (fun s7 s8 s9 s10 s11 wx => ∃ (k : Nat) (v : Value), s7 = .int .u64 0 ∧ s8 = .bool FIN.1.digs ∧ s10 = .int .i64 0 ∧ s11 = .int .i64 k ∧ k ≤ s.size ∧ Hid (FIN.2 = (bsN s).drop k) ∧ Hid (LN wx (w.heap.size + 1) w.heap.size FIN.1.D FIN.1.dp v) ∧ Hid (FIN.1.D = [] → v = .slice none 0 0) ∧ Hid (Below w.heap.size w wx) ∧ w.heap.size + 1 ≤ wx.heap.size)
    case first =>
      go_wp2_with fail
      go_loopg [7, 8, 9, 10, 11] s.size (fun g s7 s8 s9 s10 s11 wx => ∃ (k : Nat) (st : MS) (v : Value), g = s.size - k ∧ k ≤ s.size ∧ s7 = .int .u64 0 ∧ s8 = .bool st.digs ∧ s9 = .bool st.dot ∧ s10 = .int .i64 0 ∧ s11 = .int .i64 k ∧ Hid (mRun false ((bsN s).drop k) st = FIN) ∧ Hid (LN wx (w.heap.size + 1) w.heap.size st.D st.dp v) ∧ Hid (st.D = [] → v = .slice none 0 0) ∧ Hid (Below w.heap.size w wx) ∧ Hid (st.D.length ≤ k) ∧ -(k : Int) ≤ st.dp ∧ st.dp ≤ k ∧ w.heap.size + 1 ≤ wx.heap.size)
      case atStart =>
        refine ⟨0, .start, .slice none 0 0, rfl, Nat.zero_le _, rfl, rfl, rfl, rfl, rfl, Lib.hid HF.out.symm, Lib.hid ⟨heap_alloc_new w _, World.ownsRow_nil _ _ _ _, by omega⟩, Lib.hid (fun _ => rfl), Lib.hid ((Below.refl _ _).alloc (Nat.le_refl _) _), Lib.hid (by simp [MS.start]), by simp [MS.start], by simp [MS.start], by simp⟩
      case round =>
        obtain ⟨k, ⟨O, dp, dot, digs, us⟩, v, hg, hk, rfl, rfl, rfl, rfl, rfl, hrun, hN, hnil, hB, hOk, dp0, dp1, hsz⟩ := hrel
        have Hg := Lib.hid hg
        dsimp only at *
        have c0 := hN.out.c0
        have c1 := hN.out.c1
        have f0 := hN.out.f 0
        have f1 := hN.out.f 1
        clear hg
        by_cases hlt : k < s.size
        · have hDk := bsN_drop s k hlt
          have hc : s[k].toNat < 256 := UInt8.toNat_lt _
          by_cases h95 : s[k].toNat = 95
          · as_aux_lemma =>
              have q : ((s[k].toNat : Int) == 95) = true := by rw [beq_iff_eq]; omega
              have hrun2 := run_step hDk rfl hrun.out (show mStep false s[k].toNat ⟨O, dp, dot, digs, us⟩ = some ⟨O, dp, dot, digs, true⟩ by simp [mStep, h95])
              have Hrun := Lib.hid hrun2
              clear hrun2 hDk h95
              go_wp2_with fail
              go_roundg (s.size - (k + 1))
              case measure => have := Hg.out; omega
              case rel => exact ⟨k + 1, ⟨O, dp, dot, digs, true⟩, v, rfl, by omega, rfl, rfl, rfl, rfl, by go_num, Hrun, hN, hnil, hB, Lib.hid (by dsimp only; have := hOk.out; omega), by dsimp only; omega, by dsimp only; omega, hsz⟩
          · have q95 : ((s[k].toNat : Int) == 95) = false := by rw [beq_eq_false_iff_ne]; omega
            by_cases h46 : s[k].toNat = 46
            · have q46 : ((s[k].toNat : Int) == 46) = true := by rw [beq_iff_eq]; omega
              have qn : s[k].toNat < 48 := by omega
              cases dot
              · as_aux_lemma =>
                  have hrun2 := run_step hDk rfl hrun.out (show mStep false s[k].toNat ⟨O, dp, false, digs, us⟩ = some ⟨O, dp, true, digs, us⟩ by simp [mStep, h46])
                  have Hrun := Lib.hid hrun2
                  clear hrun2 hDk h95 h46
                  go_wp2_with fail
                  go_roundg (s.size - (k + 1))
                  case measure => have := Hg.out; omega
                  case rel => exact ⟨k + 1, ⟨O, dp, true, digs, us⟩, v, rfl, by omega, rfl, rfl, rfl, rfl, by go_num, Hrun, hN, hnil, hB, Lib.hid (by dsimp only; have := hOk.out; omega), by dsimp only; omega, by dsimp only; omega, hsz⟩
              · as_aux_lemma =>
                  have he := hrun.out
                  rw [hDk, mRun_stop false _ _ _ (show mStep false s[k].toNat ⟨O, dp, true, digs, us⟩ = none by simp [mStep, h46]), ← hDk] at he
                  have He := Lib.hid he
                  clear he hDk h95 h46
                  go_wp2_with fail
                  go_meet
                  exact ⟨k, v, rfl, by rw [← He.out], rfl, rfl, hk, Lib.hid (by rw [← He.out]), by rw [← He.out]; exact hN, by rw [← He.out]; exact hnil, hB, hsz⟩
            · have q46 : ((s[k].toNat : Int) == 46) = false := by rw [beq_eq_false_iff_ne]; omega
              by_cases hdg : 48 ≤ s[k].toNat ∧ s[k].toNat ≤ 57
              · obtain ⟨d0, d9⟩ := hdg
                obtain ⟨d, hd⟩ : ∃ d, d = s[k].toNat - 48 := ⟨_, rfl⟩
                have bd : d < 10 := by omega
                by_cases hO : O = []
                · have hv := hnil.out hO
                  by_cases hd0 : d = 0
                  · have hst := digit_zero dp dot digs us
                    have hms : mStep false s[k].toNat ⟨O, dp, dot, digs, us⟩ = some (MS.digit ⟨O, dp, dot, digs, us⟩ 0) := by
                      have h48 : s[k].toNat = 48 := by omega
                      simp [mStep, h48, digOf]
                    have hrun2 := run_step hDk rfl hrun.out hms
                    clear hms
                    rw [hO, hst] at hrun2
                    have Hrun := Lib.hid hrun2
                    have ed : (s[k].toNat : Int) - 48 = 0 := by omega
                    subst hO hv
                    clear hst hrun2 hDk h95 h46 hd hd0 hnil
                    cases dot
                    · as_aux_lemma =>
                        go_wp2_with fail
                        go_roundg (s.size - (k + 1))
                        case measure => have := Hg.out; omega
                        case rel => exact ⟨k + 1, ⟨[], dp, false, true, us⟩, .slice none 0 0, rfl, by omega, rfl, rfl, rfl, rfl, by go_num, Hrun, hN, Lib.hid (fun _ => rfl), hB, Lib.hid (by simp), by dsimp only; omega, by dsimp only; omega, hsz⟩
                    · as_aux_lemma =>
                        go_wp2_with fail
                        go_roundg (s.size - (k + 1))
                        case measure => have := Hg.out; omega
                        case rel => exact ⟨k + 1, ⟨[], dp - 1, true, true, us⟩, .slice none 0 0, rfl, by omega, rfl, rfl, rfl, rfl, by go_num, Hrun, Lib.hid (hN.out.setDp (dp - 1)), Lib.hid (fun _ => rfl), Lib.hid (hB.out.setCell (p := ⟨w.heap.size, 1, none⟩) (Nat.le_refl _) _), Lib.hid (by simp), by dsimp only; omega, by dsimp only; omega, by simp; omega⟩
                  · have hdz : ((d : Int) != 0) = true := by rw [bne_iff_ne]; omega
                    have hst := digit_more O dp dot digs us d (fun h => hd0 h.2)
                    have hrun2 := run_step hDk rfl hrun.out (show mStep false s[k].toNat ⟨O, dp, dot, digs, us⟩ = some (MS.digit ⟨O, dp, dot, digs, us⟩ d) by simp [mStep, h95, h46, digOf, d0, d9, hd])
                    rw [hst] at hrun2
                    have Hrun := Lib.hid hrun2
                    have q16 : ((d : Int) == 16) = false := by rw [beq_eq_false_iff_ne]; omega
                    have ed : (s[k].toNat : Int) - 48 = (d : Int) := by omega
                    have hOl : O.length ≤ 400 := by have := hOk.out; omega
                    have Hd48 := Lib.hid hd
                    subst hv
                    clear hst hrun2 h95 h46 hd hd0 hO hnil hDk
                    cases dot
                    · as_aux_lemma =>
                        go_wp2_with (at_builtin; refine wpList_append_own _ rfl _ _ 73 rfl (w.heap.size + 1) 5 i0 (.int .u8 0) 1 1 Tryz.underlying73 hi hz0 hz1 hz2 rfl (by decide) _ _ _ rfl (hN.out.own.alloc _) ⟨wr.heap.size, 0, none⟩ 1 1 [.int .u8 (d : Int)] rfl rfl (cell_one_new _ _ _) (fun x hx => by simp at hx; subst hx; rfl) (by unfold maxLen; omega) (by omega) (by simp; omega) ?_; intro v' w3 hown' hgrow3 hnil3; obtain ⟨g3, cap3, hv3⟩ := own_form hown' (by omega); subst hv3; have HP := Lib.hid (And.intro hown' hgrow3); clear hown' hgrow3 hnil3; have h3 := hN.out.mid HP.out.2; have c03 : w3.cell? ⟨w.heap.size, 0, none⟩ = some (.slice none 0 0) := by {rw [cell_of_row w3 w.heap.size 0 _ 157 (0, 0) h3]; rfl}; have c13 : w3.cell? ⟨w.heap.size, 1, none⟩ = some (.int .i64 dp) := by {rw [cell_of_row w3 w.heap.size 1 _ 157 (0, 0) h3]; rfl}; have f03 : w3.frozen? ⟨w.heap.size, 0, none⟩ = false := frozen_of_row w3 w.heap.size 0 _ 157 h3; have f13 : w3.frozen? ⟨w.heap.size, 1, none⟩ = false := frozen_of_row w3 w.heap.size 1 _ 157 h3; clear h3)
                        go_roundg (s.size - (k + 1))
                        case measure => have := Hg.out; omega
                        case rel =>
                          refine ⟨k + 1, ⟨O ++ [d], dp + 1, false, true, us⟩, .slice (some ⟨g3, 0, none⟩) (O.length + 1) cap3, rfl, by omega, rfl, rfl, rfl, rfl, by go_num, Hrun, Lib.hid ?_, Lib.hid (by intro h; simp at h), Lib.hid ?_, Lib.hid (by have := hOk.out; simp; omega), ?_, ?_, ?_⟩
                          · exact (hN.out.push HP.out.1 HP.out.2).setDp (dp + 1)
                          · exact ((Below.grown (hB.out.alloc (by omega) _) HP.out.2 (by simp; omega) (fun j hj => by have := (hN.out.own.lt j hj).1; omega)).setCell (p := ⟨w.heap.size, 0, none⟩) (Nat.le_refl _) _).setCell (p := ⟨w.heap.size, 1, none⟩) (Nat.le_refl _) _
                          · dsimp only; omega
                          · dsimp only; omega
                          · have := HP.out.2.size
                            simp at this ⊢
                            omega
                    · as_aux_lemma =>
                        go_wp2_with (at_builtin; refine wpList_append_own _ rfl _ _ 73 rfl (w.heap.size + 1) 5 i0 (.int .u8 0) 1 1 Tryz.underlying73 hi hz0 hz1 hz2 rfl (by decide) _ _ _ rfl (hN.out.own.alloc _) ⟨wr.heap.size, 0, none⟩ 1 1 [.int .u8 (d : Int)] rfl rfl (cell_one_new _ _ _) (fun x hx => by simp at hx; subst hx; rfl) (by unfold maxLen; omega) (by omega) (by simp; omega) ?_; intro v' w3 hown' hgrow3 hnil3; obtain ⟨g3, cap3, hv3⟩ := own_form hown' (by omega); subst hv3; have HP := Lib.hid (And.intro hown' hgrow3); clear hown' hgrow3 hnil3; have h3 := hN.out.mid HP.out.2; have c03 : w3.cell? ⟨w.heap.size, 0, none⟩ = some (.slice none 0 0) := by {rw [cell_of_row w3 w.heap.size 0 _ 157 (0, 0) h3]; rfl}; have c13 : w3.cell? ⟨w.heap.size, 1, none⟩ = some (.int .i64 dp) := by {rw [cell_of_row w3 w.heap.size 1 _ 157 (0, 0) h3]; rfl}; have f03 : w3.frozen? ⟨w.heap.size, 0, none⟩ = false := frozen_of_row w3 w.heap.size 0 _ 157 h3; have f13 : w3.frozen? ⟨w.heap.size, 1, none⟩ = false := frozen_of_row w3 w.heap.size 1 _ 157 h3; clear h3)
                        go_roundg (s.size - (k + 1))
                        case measure => have := Hg.out; omega
                        case rel =>
                          refine ⟨k + 1, ⟨O ++ [d], dp, true, true, us⟩, .slice (some ⟨g3, 0, none⟩) (O.length + 1) cap3, rfl, by omega, rfl, rfl, rfl, rfl, by go_num, Hrun, Lib.hid ?_, Lib.hid (by intro h; simp at h), Lib.hid ?_, Lib.hid (by have := hOk.out; simp; omega), ?_, ?_, ?_⟩
                          · exact hN.out.push HP.out.1 HP.out.2
                          · exact (Below.grown (hB.out.alloc (by omega) _) HP.out.2 (by simp; omega) (fun j hj => by have := (hN.out.own.lt j hj).1; omega)).setCell (p := ⟨w.heap.size, 0, none⟩) (Nat.le_refl _) _
                          · dsimp only; omega
                          · dsimp only; omega
                          · have := HP.out.2.size
                            simp at this ⊢
                            omega
                · have hpos : 0 < O.length := List.length_pos_iff.2 hO
                  obtain ⟨g0, cap0, hv0⟩ := own_form hN.out.own hpos
                  have hcap0 : O.length ≤ cap0 ∧ cap0 ≤ 9223372036854775807 := by
                    obtain ⟨g1, cap1, e1, hl1⟩ := hN.out.ld hO
                    rw [hv0] at e1
                    simp only [Value.slice.injEq, Option.some.injEq, Addr.mk.injEq, and_true, true_and] at e1
                    rw [e1.2]
                    exact hl1.capMax
                  subst hv0
                  have hst := digit_more O dp dot digs us d (fun h => hO h.1)
                  have hrun2 := run_step hDk rfl hrun.out (show mStep false s[k].toNat ⟨O, dp, dot, digs, us⟩ = some (MS.digit ⟨O, dp, dot, digs, us⟩ d) by simp [mStep, h95, h46, digOf, d0, d9, hd])
                  rw [hst] at hrun2
                  have Hrun := Lib.hid hrun2
                  have q16 : ((d : Int) == 16) = false := by rw [beq_eq_false_iff_ne]; omega
                  have ed : (s[k].toNat : Int) - 48 = (d : Int) := by omega
                  have hOl : O.length ≤ 400 := by have := hOk.out; omega
                  have Hd48 := Lib.hid hd
                  clear hst hrun2 h95 h46 hd hO hnil hDk
                  cases dot
                  · as_aux_lemma =>
                      go_wp2_with (at_builtin; refine wpList_append_own _ rfl _ _ 73 rfl (w.heap.size + 1) 5 i0 (.int .u8 0) 1 1 Tryz.underlying73 hi hz0 hz1 hz2 rfl (by decide) _ _ _ rfl (hN.out.own.alloc _) ⟨wr.heap.size, 0, none⟩ 1 1 [.int .u8 (d : Int)] rfl rfl (cell_one_new _ _ _) (fun x hx => by simp at hx; subst hx; rfl) (by unfold maxLen; omega) (by omega) (by simp; omega) ?_; intro v' w3 hown' hgrow3 hnil3; obtain ⟨g3, cap3, hv3⟩ := own_form hown' (by omega); subst hv3; have HP := Lib.hid (And.intro hown' hgrow3); clear hown' hgrow3 hnil3; have h3 := hN.out.mid HP.out.2; have c03 : w3.cell? ⟨w.heap.size, 0, none⟩ = some (.slice (some ⟨g0, 0, none⟩) O.length cap0) := by {rw [cell_of_row w3 w.heap.size 0 _ 157 (0, 0) h3]; rfl}; have c13 : w3.cell? ⟨w.heap.size, 1, none⟩ = some (.int .i64 dp) := by {rw [cell_of_row w3 w.heap.size 1 _ 157 (0, 0) h3]; rfl}; have f03 : w3.frozen? ⟨w.heap.size, 0, none⟩ = false := frozen_of_row w3 w.heap.size 0 _ 157 h3; have f13 : w3.frozen? ⟨w.heap.size, 1, none⟩ = false := frozen_of_row w3 w.heap.size 1 _ 157 h3; clear h3)
                      go_roundg (s.size - (k + 1))
                      case measure => have := Hg.out; omega
                      case rel =>
                        refine ⟨k + 1, ⟨O ++ [d], dp + 1, false, true, us⟩, .slice (some ⟨g3, 0, none⟩) (O.length + 1) cap3, rfl, by omega, rfl, rfl, rfl, rfl, by go_num, Hrun, Lib.hid ?_, Lib.hid (by intro h; simp at h), Lib.hid ?_, Lib.hid (by have := hOk.out; simp; omega), ?_, ?_, ?_⟩
                        · exact (hN.out.push HP.out.1 HP.out.2).setDp (dp + 1)
                        · exact ((Below.grown (hB.out.alloc (by omega) _) HP.out.2 (by simp; omega) (fun j hj => by have := (hN.out.own.lt j hj).1; omega)).setCell (p := ⟨w.heap.size, 0, none⟩) (Nat.le_refl _) _).setCell (p := ⟨w.heap.size, 1, none⟩) (Nat.le_refl _) _
                        · dsimp only; omega
                        · dsimp only; omega
                        · have := HP.out.2.size
                          simp at this ⊢
                          omega
                  · as_aux_lemma =>
                      go_wp2_with (at_builtin; refine wpList_append_own _ rfl _ _ 73 rfl (w.heap.size + 1) 5 i0 (.int .u8 0) 1 1 Tryz.underlying73 hi hz0 hz1 hz2 rfl (by decide) _ _ _ rfl (hN.out.own.alloc _) ⟨wr.heap.size, 0, none⟩ 1 1 [.int .u8 (d : Int)] rfl rfl (cell_one_new _ _ _) (fun x hx => by simp at hx; subst hx; rfl) (by unfold maxLen; omega) (by omega) (by simp; omega) ?_; intro v' w3 hown' hgrow3 hnil3; obtain ⟨g3, cap3, hv3⟩ := own_form hown' (by omega); subst hv3; have HP := Lib.hid (And.intro hown' hgrow3); clear hown' hgrow3 hnil3; have h3 := hN.out.mid HP.out.2; have c03 : w3.cell? ⟨w.heap.size, 0, none⟩ = some (.slice (some ⟨g0, 0, none⟩) O.length cap0) := by {rw [cell_of_row w3 w.heap.size 0 _ 157 (0, 0) h3]; rfl}; have c13 : w3.cell? ⟨w.heap.size, 1, none⟩ = some (.int .i64 dp) := by {rw [cell_of_row w3 w.heap.size 1 _ 157 (0, 0) h3]; rfl}; have f03 : w3.frozen? ⟨w.heap.size, 0, none⟩ = false := frozen_of_row w3 w.heap.size 0 _ 157 h3; have f13 : w3.frozen? ⟨w.heap.size, 1, none⟩ = false := frozen_of_row w3 w.heap.size 1 _ 157 h3; clear h3)
                      go_roundg (s.size - (k + 1))
                      case measure => have := Hg.out; omega
                      case rel =>
                        refine ⟨k + 1, ⟨O ++ [d], dp, true, true, us⟩, .slice (some ⟨g3, 0, none⟩) (O.length + 1) cap3, rfl, by omega, rfl, rfl, rfl, rfl, by go_num, Hrun, Lib.hid ?_, Lib.hid (by intro h; simp at h), Lib.hid ?_, Lib.hid (by have := hOk.out; simp; omega), ?_, ?_, ?_⟩
                        · exact hN.out.push HP.out.1 HP.out.2
                        · exact (Below.grown (hB.out.alloc (by omega) _) HP.out.2 (by simp; omega) (fun j hj => by have := (hN.out.own.lt j hj).1; omega)).setCell (p := ⟨w.heap.size, 0, none⟩) (Nat.le_refl _) _
                        · dsimp only; omega
                        · dsimp only; omega
                        · have := HP.out.2.size
                          simp at this ⊢
                          omega
              · have he := hrun.out
                rw [hDk, mRun_stop false _ _ _ (mstop_other h95 h46 (digOf_none hdg (by simp))), ← hDk] at he
                have He := Lib.hid he
                have hdd : s[k].toNat < 48 ∨ 57 < s[k].toNat := by omega
                clear he hDk h95 h46 hdg
                rcases hdd with h1 | h1
                · as_aux_lemma =>
                    go_wp2_with fail
                    go_meet
                    exact ⟨k, v, rfl, by rw [← He.out], rfl, rfl, hk, Lib.hid (by rw [← He.out]), by rw [← He.out]; exact hN, by rw [← He.out]; exact hnil, hB, hsz⟩
                · as_aux_lemma =>
                    go_wp2_with fail
                    go_meet
                    exact ⟨k, v, rfl, by rw [← He.out], rfl, rfl, hk, Lib.hid (by rw [← He.out]), by rw [← He.out]; exact hN, by rw [← He.out]; exact hnil, hB, hsz⟩
        · as_aux_lemma =>
            have he := hrun.out
            rw [bsN_drop_end s k (by omega), mRun_end] at he
            have He := Lib.hid he
            clear he
            go_wp2_with fail
            go_meet
            exact ⟨k, v, rfl, by rw [← He.out], rfl, rfl, hk, Lib.hid (by rw [← He.out, bsN_drop_end s k (by omega)]), by rw [← He.out]; exact hN, by rw [← He.out]; exact hnil, hB, hsz⟩
    case rest =>
      obtain ⟨k, v, rfl, rfl, rfl, rfl, hk, HR, HN, Hnil, HBel, hsz1⟩ := hcut
      have HNO := Lib.hid (show lXe false ((bsN s).drop k) = none → lread (bsN s) = none from fun h => lread_nox (by rw [HX.out, ← HFe.out, HR.out]; exact h))
      have hmok := mRun_ok false (bsN s) .start (start_ok false)
      have hmlen := mRun_len false (bsN s) .start
      have hmdp := mRun_dp false (bsN s) .start
      rw [← HF.out] at hmok hmlen hmdp
      rw [bsN_len] at hmlen hmdp
      have Hlen := Lib.hid (show FIN.1.D.length ≤ 400 by have e : (MS.start).D.length = 0 := rfl; omega)
      have Hlead := Lib.hid hmok.lead
      have Hdig := Lib.hid (show ∀ x ∈ FIN.1.D, x < 10 from hmok.dig)
      have Hbd := Lib.hid (show -400 ≤ FIN.1.dp ∧ FIN.1.dp ≤ 400 by have e : (MS.start).dp = 0 := rfl; omega)
      clear hmok hmlen hmdp
      obtain ⟨dg, hdg⟩ : ∃ dg, dg = FIN.1.digs := ⟨_, rfl⟩
      rw [← hdg]
      have Hdg := Lib.hid hdg
      clear hdg
      cases dg
      · as_aux_lemma =>
          have Hn := Lib.hid (show lread (bsN s) = none from lread_nodigs (by rw [← HFe.out]; exact Hdg.out.symm))
          go_wp2_with fail
          go_ret2
          exact RDPost.no Hn.out HBel.out rfl
      · have hdgt : FIN.1.digs = true := Hdg.out.symm
        obtain ⟨MK, hMK⟩ : ∃ MK, MK = mkAt false (bsN s) k := ⟨_, rfl⟩
        have HMK := Lib.hid hMK
        have Hdgt := Lib.hid hdgt
        clear hMK hdgt
        go_upto_region 37 with fail
        go_cut [143] (fun v w2 => v = .bool MK ∧ w2 = wc)
        case first =>
          as_aux_lemma =>
            go_wp2_with (go_at_call 85; refine (lower85_any _ _ (UInt8.toNat_lt _)).mono ?_; rintro e w' ⟨rfl, rfl⟩)
            · go_meet
              exact ⟨vb (by rw [HMK.out, mkAt_in ‹k < s.size›]; rfl), rfl⟩
            · go_meet
              exact ⟨vb (by rw [HMK.out, mkAt_end (by omega)]), rfl⟩
        case rest =>
          obtain ⟨rfl, rfl⟩ := hcut
          go_upto_if 143 with fail
          go_cut [10, 11] (fun s10 s11 w2 => ∃ (i : Nat) (e : Int), i ≤ s.size ∧ s11 = .int .i64 i ∧ s10 = .int .i64 (0 + e) ∧ -100000 ≤ e ∧ e ≤ 100000 ∧ lXe false ((bsN s).drop k) = (if i = s.size then some e else none) ∧ w2 = wc)
          case first => exact expL false s s w wc k 0 MK _ _ _ _ _ _ _ _ _ _ _ _ _ _ _ _ _ _ _ _ _ _ _ _ _ _ _ _ _ _ _ _ _ _ _ _ _ _ _ _ _ _ _ _ _ _ _ _ _ _ _ _ _ _ _ _ _ _ _ _ _ _ _ _ _ _ _ _ _ _ _ _ _ _ _ _ _ _ _ _ _ _ _ _ _ _ _ _ _ _ _ _ _ _ _ _ _ _ _ _ _ _ _ _ _ _ _ _ _ _ _ _ _ _ _ _ _ _ _ _ _ _ _ _ _ _ _ _ _ _ _ _ _ _ _ _ _ _ _ _ _ _ _ _ _ _ _ _ _ _ _ _ _ _ _ _ _ _ _ _ _ _ _ _ _ _ _ _ _ _ _ _ _ _ _ _ _ _ _ _ _ _ _ _ _ _ _ _ _ _ _ _ _ _ _ _ _ _ _ _ _ _ _ _ _ _ _ _ _ _ _ _ _ _ _ _ _ _ _ _ _ _ _ _ _ _ _ _ _ _ _ _ _ _ _ _ _ _ _ _ _ _ _ _ _ _ _ _ _ _ _ _ _ _ _ _ _ _ _ _ _ _ _ _ hs hk (by omega) HMK HNO HBel (by assumption) (by assumption)
          case rest =>
            obtain ⟨i, e, hi, rfl, rfl, d1b, d2b, hend, rfl⟩ := hcut
            have Hend := Lib.hid hend
            clear hend
            by_cases hsz : i < s.size
            · as_aux_lemma =>
                have Hn := Lib.hid (HNO.out (Hend.out.trans (if_neg (by omega))))
                go_wp2_with fail
                go_ret2
                exact RDPost.no Hn.out HBel.out rfl
            · have Hxe := Lib.hid (Hend.out.trans (if_pos (by omega)))
              obtain ⟨D, hD⟩ : ∃ D, D = FIN.1.D := ⟨_, rfl⟩
              obtain ⟨dp, hdp⟩ : ∃ dp, dp = FIN.1.dp := ⟨_, rfl⟩
              have hN := HN.out
              rw [← hD, ← hdp] at hN
              have hnl := Hnil.out
              rw [← hD] at hnl
              have hbd := Hbd.out
              rw [← hdp] at hbd
              have hlr : lread (bsN s) = some (if D = [] then ([], 0) else (ltrim D, dp + e)) := by
                unfold lread
                rw [← HFe.out, Hdgt.out, if_pos rfl, HX.out, HR.out, Hxe.out, hD, hdp]
                rfl
              have hlen : D.length ≤ 400 := by rw [hD]; exact Hlen.out
              have hlead : D.head? ≠ some 0 := by rw [hD]; exact Hlead.out
              have hdig : ∀ x ∈ D, x < 10 := by rw [hD]; exact Hdig.out
              have c0 := hN.c0
              have c1 := hN.c1
              have f1 := hN.f 1
              have hB := HBel.out
              have hN2 := hN.setDp (dp + e)
              have hB2 : Below w.heap.size w (wc.setCell ⟨w.heap.size, 1, none⟩ (.int .i64 (dp + e))) := hB.setCell (p := ⟨w.heap.size, 1, none⟩) (Nat.le_refl _) _
              have Hlr := Lib.hid hlr
              have HB2 := Lib.hid hB2
              have HN2 := Lib.hid hN2
              have hszi : i = s.size := by omega
              have e0 : (0 : Int) + e = e := by omega
              subst hszi
              clear hsz hlr hD hdp hN hB hN2 hB2
              by_cases hDn : D = []
              · as_aux_lemma =>
                  have hv := hnl hDn
                  have hlr2 := Hlr.out
                  rw [if_pos hDn] at hlr2
                  have Hlr2 := Lib.hid hlr2
                  subst hv
                  have Hc := Lib.hid (trim_nilW _ w.heap.size (dp + e) HN2.out.blk)
                  clear hlr2 hDn hlead hdig hlen
                  go_wp2_with fail
                  refine Hc.out.mono ?_
                  rintro e' w' ⟨rfl, hl, hf⟩
                  have Hl := Lib.hid hl
                  have Hf := Lib.hid hf
                  clear hl hf
                  go_wp2_with fail
                  go_ret2
                  exact RDPost.nil Hlr2.out (HB2.out.trans (Hf.out.below (Nat.le_refl _) (by simp; omega))) (Nat.le_refl _) rfl Hl.out
              · as_aux_lemma =>
                  have hlr2 := Hlr.out
                  rw [if_neg hDn] at hlr2
                  have Hlr2 := Lib.hid hlr2
                  obtain ⟨g, cap, hv, hLD⟩ := HN2.out.ld hDn
                  subst hv
                  have Hok := Lib.hid (ltrim_ok hdig hlead hDn)
                  have Hc := Lib.hid (ltrimW_any _ w.heap.size w.heap.size g cap D (dp + e) hLD hlead hDn (by omega))
                  clear hlr2 hDn hlead hdig hLD hnl
                  go_wp2_with fail
                  refine Hc.out.mono ?_
                  rintro e' w' ⟨rfl, hl, hf⟩
                  have Hl := Lib.hid hl
                  have Hf := Lib.hid hf
                  clear hl hf
                  go_wp2_with fail
                  go_ret2
                  exact RDPost.yes Hlr2.out (HB2.out.trans (Hf.out.below (Nat.le_refl _) (by simp; omega))) (Nat.le_refl _) rfl Hok.out (Nat.le_refl _) Hl.out
end Go.Proofs.YtdfbokmjipdolaaGreatDoor
