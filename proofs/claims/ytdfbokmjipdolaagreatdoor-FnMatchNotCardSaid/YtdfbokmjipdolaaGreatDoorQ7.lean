/- Texts of the proof, joined: D8, D9, D10, D12. -/
import Derived.Test.YtdfbokmjipdolaaGreatDoorD7
set_option linter.unusedVariables false
set_option linter.unusedSimpArgs false
/- The light decimal's shift, its digits, and the nearest whole number. -/
namespace Go.Proofs.YtdfbokmjipdolaaGreatDoor
open Go.RowKit

theorem dblP_ge {D : List Nat} (hd : LOk D) {k : Nat} (hk : k ≤ 59) (dp : Int) : dp ≤ dblP k D dp := by
  have h1 := num_head hd
  have h2 := num_lt 10 (by decide) (dblO k D) (dblO_dig k D)
  rw [dblO_num hd hk] at h2
  have h3 : 1 * 10 ^ (D.length - 1) ≤ D.getD 0 0 * 10 ^ (D.length - 1) := Nat.mul_le_mul_right _ h1.2.2.1
  have h4 : num 10 D * 1 ≤ num 10 D * 2 ^ k := Nat.mul_le_mul_left _ (Nat.two_pow_pos k)
  have h5 : 10 ^ (D.length - 1) < 10 ^ (dblO k D).length := by omega
  have := (Nat.pow_lt_pow_iff_right (a := 10) (by decide)).1 h5
  unfold dblP
  omega
theorem lUp_stop (f : Nat) (D : List Nat) (dp : Int) (k : Nat) (hk : k ≤ 59) (hf : k < f) : lUp f D dp k = if 0 < k then (dblD k D, dblP k D dp) else (D, dp) := by
  cases f with
  | zero => omega
  | succ f => rw [lUp, if_neg (by omega)]
theorem lDn_stop (f : Nat) (D : List Nat) (dp : Int) (k : Nat) (hk : k ≤ 59) (hf : k < f) : lDn f D dp k = if 0 < k then (halfD k D, halfP k D dp) else (D, dp) := by
  cases f with
  | zero => omega
  | succ f => rw [lDn, if_neg (by omega)]

set_option maxRecDepth 100000 in
set_option maxHeartbeats 1000000 in
theorem shiftUpW (w : World) (B b g cap : Nat) (D : List Nat) (dp : Int) (k f : Nat) (h : LD w B b g cap D dp) (hd : LOk D) (hf : k < f) (hf2 : f ≤ 5000) (hlen : D.length + 18 * f ≤ 800000) (hdp : -900000 ≤ dp) (hdp' : dp + 18 * f ≤ 900000) :
    Calls Tryz.prog 88 #[.pointer (some ⟨b, 0, none⟩), .int .i64 k] w (HalfPost w B b (lUp f D dp k).1 (lUp f D dp k).2) := by
  obtain ⟨R, hR⟩ : ∃ R, R = lUp f D dp k := ⟨_, rfl⟩
  rw [← hR]
  have HR := Lib.hid hR
  have H := Lib.hid h
  have Hd := Lib.hid hd
  have Hl := Lib.hid hlen
  clear hR h hd hlen
  go_enter Tryz.func88, Tryz.ntmps88
  go_upto_block 0 with fail
  go_cut [1] (fun s1 wx => ∃ (K f' g' cap' : Nat) (E : List Nat) (dq : Int), s1 = .int .i64 K ∧ K ≤ 59 ∧ K < f' ∧ Hid (LD wx B b g' cap' E dq) ∧ Hid (LOk E) ∧ Hid (lUp f' E dq K = R) ∧ Hid (E.length + 18 * f' ≤ 800000) ∧ -900000 ≤ dq ∧ dq + 18 * f' ≤ 900000 ∧ Hid (Fr b w wx))
  case first =>
    go_wp2_with fail
    go_loopg [1] f (fun gm s1 wx => ∃ (K g' cap' : Nat) (E : List Nat) (dq : Int), s1 = .int .i64 K ∧ K < gm ∧ gm ≤ 5000 ∧ Hid (LD wx B b g' cap' E dq) ∧ Hid (LOk E) ∧ Hid (lUp gm E dq K = R) ∧ Hid (E.length + 18 * gm ≤ 800000) ∧ -900000 ≤ dq ∧ dq + 18 * gm ≤ 900000 ∧ Hid (Fr b w wx))
    case atStart => exact ⟨k, g, cap, D, dp, rfl, hf, hf2, H, Hd, Lib.hid HR.out.symm, Hl, hdp, by omega, Lib.hid (Fr.refl _ _)⟩
    case round =>
      obtain ⟨K, g', cap', E, dq, rfl, hK, hgm, HL, HE, HU, HEl, q1, q2, HB⟩ := hrel
      by_cases hk59 : 59 < K
      · obtain ⟨f', rfl⟩ : ∃ f', gk = f' + 1 := ⟨gk - 1, by omega⟩
        have hu := HU.out
        rw [lUp, if_pos hk59] at hu
        have HU2 := Lib.hid hu
        have Hc := Lib.hid (dblW_any wr B b g' cap' E dq 59 HL.out HE.out (by decide) (by decide) (by have := HEl.out; omega) (by omega) (by omega))
        have Hp := Lib.hid (And.intro (dblP_ge HE.out (k := 59) (by decide) dq) (And.intro (dblP_le (D := E) 59 dq) (dbl_len (D := E) (k := 59))))
        clear hu
        go_wp2_with fail
        refine Hc.out.mono ?_
        rintro e w' ⟨rfl, ⟨g2, cap2, hL2⟩, hB2⟩
        have HL2 := Lib.hid hL2
        have HB2 := Lib.hid (HB.out.trans hB2)
        clear hL2 hB2
        go_wp2_with fail
        go_roundg f'
        case measure => omega
        case rel =>
          have := Hp.out
          exact ⟨K - 59, g2, cap2, dblD 59 E, dblP 59 E dq, vi (by omega), by omega, by omega, HL2, Lib.hid (dbl_ok HE.out (by decide)), HU2, Lib.hid (by have := HEl.out; omega), by omega, by omega, HB2⟩
      · go_wp2_with fail
        go_meet
        exact ⟨K, gk, g', cap', E, dq, rfl, by omega, hK, HL, HE, HU, HEl, q1, q2, HB⟩
  case rest =>
    obtain ⟨K, f', g', cap', E, dq, rfl, hK, hKf, HL, HE, HU, HEl, q1, q2, HB⟩ := hcut
    go_upto_block 2 with fail
    go_cut [1] (fun s1 wx => s1 = .int .i64 K ∧ wx = wc)
    case first =>
      as_aux_lemma =>
        go_wp2_with fail
        go_loopg [1] 1 (fun gm s1 wx => s1 = .int .i64 K ∧ wx = wc)
        case atStart => exact ⟨rfl, rfl⟩
        case round =>
          obtain ⟨rfl, rfl⟩ := hrel
          go_wp2_with fail
          go_meet
          exact ⟨rfl, rfl⟩
    case rest =>
      obtain ⟨rfl, rfl⟩ := hcut
      have hst := HU.out
      rw [lUp_stop f' E dq K hK hKf] at hst
      by_cases h0 : 0 < K
      · as_aux_lemma =>
          rw [if_pos h0] at hst
          have HS := Lib.hid hst
          have Hc := Lib.hid (dblW_any wc B b g' cap' E dq K HL.out HE.out h0 hK (by have := HEl.out; omega) (by omega) (by omega))
          clear hst
          go_wp2_with fail
          refine Hc.out.mono ?_
          rintro e w' ⟨rfl, ⟨g2, cap2, hL2⟩, hB2⟩
          have HL2 := Lib.hid hL2
          have HB2 := Lib.hid (HB.out.trans hB2)
          clear hL2 hB2
          go_wp2_with fail
          go_end0
          exact ⟨rfl, ⟨g2, cap2, by rw [← HS.out]; exact HL2.out⟩, HB2.out⟩
      · as_aux_lemma =>
          rw [if_neg h0] at hst
          have HS := Lib.hid hst
          clear hst
          have e0 : K = 0 := by omega
          subst e0
          clear h0
          go_wp2_with fail
          go_end0
          exact ⟨rfl, ⟨g', cap', by rw [← HS.out]; exact HL.out⟩, HB.out⟩

set_option maxRecDepth 100000 in
set_option maxHeartbeats 1000000 in
theorem shiftDnW (w : World) (B b g cap : Nat) (D : List Nat) (dp : Int) (k f : Nat) (h : LD w B b g cap D dp) (hd : LOk D) (hk0 : 0 < k) (hf : k < f) (hf2 : f ≤ 5000) (hlen : D.length + 61 * f ≤ 800000) (hdp : -900000 ≤ dp - 18 * f) (hdp' : dp ≤ 900000) :
    Calls Tryz.prog 88 #[.pointer (some ⟨b, 0, none⟩), .int .i64 (-(k : Int))] w (HalfPost w B b (lDn f D dp k).1 (lDn f D dp k).2) := by
  obtain ⟨R, hR⟩ : ∃ R, R = lDn f D dp k := ⟨_, rfl⟩
  rw [← hR]
  have HR := Lib.hid hR
  have H := Lib.hid h
  have Hd := Lib.hid hd
  have Hl := Lib.hid hlen
  clear hR h hd hlen
  go_enter Tryz.func88, Tryz.ntmps88
  go_upto_block 0 with fail
  go_cut [1] (fun s1 wx => s1 = .int .i64 (-(k : Int)) ∧ wx = w)
  case first =>
    as_aux_lemma =>
      go_wp2_with fail
      go_loopg [1] 1 (fun gm s1 wx => s1 = .int .i64 (-(k : Int)) ∧ wx = w)
      case atStart => exact ⟨rfl, rfl⟩
      case round =>
        obtain ⟨rfl, rfl⟩ := hrel
        go_wp2_with fail
        go_meet
        exact ⟨rfl, rfl⟩
  case rest =>
    obtain ⟨rfl, rfl⟩ := hcut
    go_upto_block 2 with fail
    go_cut [1] (fun s1 wx => ∃ (K f' g' cap' : Nat) (E : List Nat) (dq : Int), s1 = .int .i64 (-(K : Int)) ∧ 0 < K ∧ K ≤ 59 ∧ K < f' ∧ Hid (LD wx B b g' cap' E dq) ∧ Hid (LOk E) ∧ Hid (lDn f' E dq K = R) ∧ Hid (E.length + 61 * f' ≤ 800000) ∧ -900000 ≤ dq - 18 * f' ∧ dq ≤ 900000 ∧ Hid (Fr b wc wx))
    case first =>
      go_wp2_with fail
      go_loopg [1] f (fun gm s1 wx => ∃ (K g' cap' : Nat) (E : List Nat) (dq : Int), s1 = .int .i64 (-(K : Int)) ∧ 0 < K ∧ K < gm ∧ gm ≤ 5000 ∧ Hid (LD wx B b g' cap' E dq) ∧ Hid (LOk E) ∧ Hid (lDn gm E dq K = R) ∧ Hid (E.length + 61 * gm ≤ 800000) ∧ -900000 ≤ dq - 18 * gm ∧ dq ≤ 900000 ∧ Hid (Fr b wc wx))
      case atStart => exact ⟨k, g, cap, D, dp, rfl, hk0, hf, hf2, H, Hd, Lib.hid HR.out.symm, Hl, hdp, by omega, Lib.hid (Fr.refl _ _)⟩
      case round =>
        obtain ⟨K, g', cap', E, dq, rfl, hKp, hK, hgm, HL, HE, HU, HEl, q1, q2, HB⟩ := hrel
        by_cases hk59 : 59 < K
        · obtain ⟨f', rfl⟩ : ∃ f', gk = f' + 1 := ⟨gk - 1, by omega⟩
          have hu := HU.out
          rw [lDn, if_pos hk59] at hu
          have HU2 := Lib.hid hu
          have Hc := Lib.hid (halfW_any wr B b g' cap' E dq 59 HL.out HE.out (by decide) (by decide) (by have := HEl.out; omega) (by omega) (by omega))
          have Hp := Lib.hid (And.intro (halfP_ge HE.out (k := 59) (by decide) dq) (half_len (D := E) (k := 59)))
          clear hu
          go_wp2_with fail
          refine Hc.out.mono ?_
          rintro e w' ⟨rfl, ⟨g2, cap2, hL2⟩, hB2⟩
          have HL2 := Lib.hid hL2
          have HB2 := Lib.hid (HB.out.trans hB2)
          clear hL2 hB2
          go_wp2_with fail
          go_roundg f'
          case measure => omega
          case rel =>
            have := Hp.out
            exact ⟨K - 59, g2, cap2, halfD 59 E, halfP 59 E dq, vi (by omega), by omega, by omega, by omega, HL2, Lib.hid (half_ok HE.out (by decide)), HU2, Lib.hid (by have := HEl.out; omega), by omega, by omega, HB2⟩
        · go_wp2_with fail
          go_meet
          exact ⟨K, gk, g', cap', E, dq, rfl, hKp, by omega, hK, HL, HE, HU, HEl, q1, q2, HB⟩
    case rest =>
      obtain ⟨K, f', g', cap', E, dq, rfl, hKp, hK, hKf, HL, HE, HU, HEl, q1, q2, HB⟩ := hcut
      have hst := HU.out
      rw [lDn_stop f' E dq K hK hKf, if_pos hKp] at hst
      have HS := Lib.hid hst
      have Hc := Lib.hid (halfW_any wc B b g' cap' E dq K HL.out HE.out (by omega) hK (by have := HEl.out; omega) (by omega) (by omega))
      clear hst
      go_wp2_with fail
      refine Hc.out.mono ?_
      rintro e w' ⟨rfl, ⟨g2, cap2, hL2⟩, hB2⟩
      have HL2 := Lib.hid hL2
      have HB2 := Lib.hid (HB.out.trans hB2)
      clear hL2 hB2
      go_wp2_with fail
      go_end0
      exact ⟨rfl, ⟨g2, cap2, by rw [← HS.out]; exact HL2.out⟩, HB2.out⟩
end Go.Proofs.YtdfbokmjipdolaaGreatDoor
/- The light decimal's digits, and the nearest whole number. -/
namespace Go.Proofs.YtdfbokmjipdolaaGreatDoor
open Go.RowKit

theorem digitW_any (w : World) (B b g cap : Nat) (D : List Nat) (dp : Int) (i : Nat) (h : LD w B b g cap D dp) (hi : i ≤ 1000000) (hl : D.length ≤ 900000) :
    Calls Tryz.prog 117 #[.pointer (some ⟨b, 0, none⟩), .int .i64 i] w fun e w' => e = .returned (.int .u8 (D.getD i 0 : Nat)) ∧ w = w' := by
  have c0 := h.c0
  have hcap := h.capMax
  obtain ⟨n, hn⟩ : ∃ n, n = D.length := ⟨_, rfl⟩
  by_cases hin : i < D.length
  · have cg := h.cg i hin
    obtain ⟨v, hv⟩ : ∃ v, v = D.getD i 0 := ⟨_, rfl⟩
    rw [← hv] at cg ⊢
    rw [← hn] at c0 hin hcap hl
    clear hv hn h
    go_enter Tryz.func117, Tryz.ntmps117
    go_wp2_with fail
    go_ret
    exact ⟨rfl, rfl⟩
  · have e : D.getD i 0 = 0 := by rw [List.getD_eq_getElem?_getD, List.getElem?_eq_none (by omega)]; rfl
    rw [e]
    rw [← hn] at c0 hin hcap hl
    clear hn h e
    go_enter Tryz.func117, Tryz.ntmps117
    go_wp2_with fail
    go_ret
    exact ⟨rfl, rfl⟩
def nUpI (D : List Nat) (x : Int) : Bool := if x < 0 then false else nUp D x.toNat
set_option maxRecDepth 100000 in
set_option maxHeartbeats 1000000 in
theorem nearUpW_any (w : World) (B b g cap : Nat) (D : List Nat) (dp : Int) (x : Int) (h : LD w B b g cap D dp) (hd : ∀ x ∈ D, x < 10) (hx : x ≤ 1000000) (hl : D.length ≤ 900000) :
    Calls Tryz.prog 118 #[.pointer (some ⟨b, 0, none⟩), .int .i64 x] w fun e w' => e = .returned (.bool (nUpI D x)) ∧ w = w' := by
  have c0 := h.c0
  have hcap := h.capMax
  by_cases hx0 : x < 0
  · have e : nUpI D x = false := if_pos hx0
    rw [e]
    obtain ⟨n, hn⟩ : ∃ n, n = D.length := ⟨_, rfl⟩
    rw [← hn] at c0 hcap hl
    clear hn h e
    go_enter Tryz.func118, Tryz.ntmps118
    go_wp2_with fail
    go_ret
    exact ⟨rfl, rfl⟩
  · obtain ⟨i, rfl⟩ : ∃ i : Nat, x = i := ⟨x.toNat, by omega⟩
    have e : nUpI D (i : Int) = nUp D i := if_neg hx0
    rw [e]
    clear e hx0
    obtain ⟨n, hn⟩ : ∃ n, n = D.length := ⟨_, rfl⟩
    by_cases hin : i < D.length
    · have cg := h.cg i hin
      have cg1 : 0 < i → w.cell? ⟨g, i - 1, none⟩ = some (.int .u8 (D.getD (i - 1) 0 : Nat)) := fun _ => h.cg (i - 1) (by omega)
      have bv := getD_lt hd i
      have bu := getD_lt hd (i - 1)
      have hu : nUp D i = if D.getD i 0 = 5 ∧ i + 1 = D.length then decide (0 < i) && (D.getD (i - 1) 0 % 2 != 0) else decide (5 ≤ D.getD i 0) := if_neg (by omega)
      obtain ⟨v, hv⟩ : ∃ v, v = D.getD i 0 := ⟨_, rfl⟩
      obtain ⟨u, hue⟩ : ∃ u, u = D.getD (i - 1) 0 := ⟨_, rfl⟩
      rw [← hv] at cg hu bv
      rw [← hue] at cg1 hu bu
      rw [← hn] at c0 hin hcap hl hu
      rw [hu]
      clear hv hue hn h hu
      by_cases h5 : v = 5
      · by_cases hl1 : i + 1 = n
        · rw [if_pos ⟨h5, hl1⟩]
          by_cases hi0 : 0 < i
          · obtain ⟨j, hj⟩ : ∃ j, i = j + 1 := ⟨i - 1, by omega⟩
            have cg2 := cg1 (by omega)
            rw [show i - 1 = j by omega] at cg2
            have ej : (i : Int) - 1 = j := by omega
            have q : (((i : Int) + 1) == (n : Int)) = true := by rw [beq_iff_eq]; omega
            have q5 : ((v : Int) == 5) = true := by rw [beq_iff_eq]; omega
            have e2 : (decide (0 < i) && (u % 2 != 0)) = (((u : Int) % 2) != 0) := by
              rw [Bool.eq_iff_iff]; simp; omega
            rw [e2]
            clear e2 h5 hl1 hj cg1
            go_enter Tryz.func118, Tryz.ntmps118
            go_wp2_with fail
            go_ret
            exact ⟨rfl, rfl⟩
          · have e2 : (decide (0 < i) && (u % 2 != 0)) = false := by simp; omega
            rw [e2]
            have : i = 0 := by omega
            subst this h5 hl1
            clear cg1 e2 hi0
            go_enter Tryz.func118, Tryz.ntmps118
            go_wp2_with fail
            go_ret
            exact ⟨rfl, rfl⟩
        · rw [if_neg (fun h => hl1 h.2)]
          have q : (((i : Int) + 1) == (n : Int)) = false := by rw [beq_eq_false_iff_ne]; omega
          subst h5
          clear cg1 hl1
          go_enter Tryz.func118, Tryz.ntmps118
          go_wp2_with fail
          go_ret
          exact ⟨rfl, rfl⟩
      · rw [if_neg (fun h => h5 h.1)]
        have q : ((v : Int) == 5) = false := by rw [beq_eq_false_iff_ne]; omega
        have e2 : decide (5 ≤ v) = decide ((5 : Int) ≤ (v : Int)) := by rw [decide_eq_decide]; omega
        rw [e2]
        clear cg1 h5 e2
        go_enter Tryz.func118, Tryz.ntmps118
        go_wp2_with fail
        go_ret
        exact ⟨rfl, rfl⟩
    · have e : nUp D i = false := if_pos (by omega)
      rw [e]
      rw [← hn] at c0 hcap hl hin
      clear hn h e
      go_enter Tryz.func118, Tryz.ntmps118
      go_wp2_with fail
      go_ret
      exact ⟨rfl, rfl⟩

set_option maxRecDepth 100000 in
set_option maxHeartbeats 1000000 in
theorem wholeW_any (w : World) (B b g cap : Nat) (D : List Nat) (dp : Int) (h : LD w B b g cap D dp) (hd : LOk D) (hdp : -900000 ≤ dp) (hdp' : dp ≤ 900000) (hl : D.length ≤ 800000) (hw : hN D dp.toNat ≤ 9007199254740992) :
    Calls Tryz.prog 92 #[.pointer (some ⟨b, 0, none⟩)] w fun e w' => e = .returned (.int .u64 (wholeI D dp : Nat)) ∧ w = w' := by
  have c1 := h.c1
  have H := Lib.hid h
  have Hd := Lib.hid hd
  have Hw := Lib.hid hw
  have hnu := Lib.hid (nearUpW_any w B b g cap D dp dp h hd.dig (by omega) (by omega))
  have hwi : wholeI D dp = hN D dp.toNat + if nUpI D dp then 1 else 0 := by
    unfold wholeI nUpI whole
    by_cases h0 : dp < 0
    · rw [if_pos h0, if_pos h0]
      have : dp.toNat = 0 := by omega
      rw [this]; rfl
    · rw [if_neg h0, if_neg h0]
  obtain ⟨U, hU⟩ : ∃ U, U = nUpI D dp := ⟨_, rfl⟩
  rw [← hU] at hwi hnu
  have Hwi := Lib.hid hwi
  have Hl := Lib.hid hl
  clear h hd hw hwi hU hl
  go_enter Tryz.func92, Tryz.ntmps92
  go_upto_block 0 with fail
  go_cut [3] (fun s3 wx => s3 = .int .u64 (hN D dp.toNat : Nat) ∧ wx = w)
  case first =>
    as_aux_lemma =>
      go_wp2_with fail
      go_loopg [3, 4] dp.toNat (fun gm s3 s4 wx => ∃ i N : Nat, gm = dp.toNat - i ∧ i ≤ dp.toNat ∧ s3 = .int .u64 N ∧ s4 = .int .i64 i ∧ Hid (N = hN D i) ∧ wx = w)
      case atStart => exact ⟨0, 0, rfl, Nat.zero_le _, rfl, rfl, Lib.hid rfl, rfl⟩
      case round =>
        obtain ⟨i, N, hg, hi, rfl, rfl, HN, rfl⟩ := hrel
        have Hg := Lib.hid hg
        clear hg
        have bN : N ≤ 9007199254740992 := by
          rw [HN.out]
          have := hN_le_mono Hd.out (dp.toNat - i) i
          rw [show i + (dp.toNat - i) = dp.toNat by omega] at this
          exact Nat.le_trans this Hw.out
        by_cases hlt : (i : Int) < dp
        · have Hdig := Lib.hid (digitW_any wr B b g cap D dp i H.out (by omega) (by have := Hl.out; omega))
          obtain ⟨v, hv⟩ : ∃ v, v = D.getD i 0 := ⟨_, rfl⟩
          have bv : v < 10 := by rw [hv]; exact getD_lt Hd.out.dig i
          rw [← hv] at Hdig
          have Hv := Lib.hid hv
          clear hv
          go_wp2_with (go_at_call 117; refine Hdig.out.mono ?_; rintro e w' ⟨rfl, rfl⟩)
          go_roundg (dp.toNat - (i + 1))
          case measure => have := Hg.out; omega
          case rel => exact ⟨i + 1, N * 10 + v, rfl, by omega, by go_num, by go_num, Lib.hid (by rw [hN, ← HN.out, ← Hv.out]), rfl⟩
        · have e : i = dp.toNat := by omega
          have HN2 := Lib.hid (show hN D dp.toNat = N by rw [HN.out, e])
          clear e
          go_wp2_with fail
          go_meet
          exact ⟨by rw [HN2.out], rfl⟩
  case rest =>
    obtain ⟨rfl, rfl⟩ := hcut
    obtain ⟨N, hN'⟩ : ∃ N, N = hN D dp.toNat := ⟨_, rfl⟩
    have hb := Hw.out
    rw [← hN'] at hb ⊢
    have HN := Lib.hid hN'
    clear hN'
    cases U
    · as_aux_lemma =>
        go_wp2_with (go_at_call 118; refine hnu.out.mono ?_; rintro e w' ⟨rfl, rfl⟩)
        go_ret
        exact ⟨by rw [Hwi.out, HN.out]; rfl, rfl⟩
    · as_aux_lemma =>
        go_wp2_with (go_at_call 118; refine hnu.out.mono ?_; rintro e w' ⟨rfl, rfl⟩)
        go_ret
        exact ⟨by rw [Hwi.out, HN.out]; rfl, rfl⟩
end Go.Proofs.YtdfbokmjipdolaaGreatDoor
/- The light decimal's bits. -/
namespace Go.Proofs.YtdfbokmjipdolaaGreatDoor
open Go.RowKit

structure FormAt (w : World) (F : Nat) : Prop where
  c0 : w.cell? ⟨F, 0, none⟩ = some (.int .i64 52)
  c1 : w.cell? ⟨F, 1, none⟩ = some (.int .i64 11)
  c2 : w.cell? ⟨F, 2, none⟩ = some (.int .i64 (-1023))
theorem FormAt.fr {w w' : World} {F b : Nat} (h : FormAt w F) (hf : Fr b w w') (hne : F ≠ b) : FormAt w' F := ⟨hf.cell h.c0 hne, hf.cell h.c1 hne, hf.cell h.c2 hne⟩
theorem FormAt.drewN {w : World} {F : Nat} (h : FormAt w F) (n : Nat) : FormAt (w.drewN n) F := ⟨h.c0, h.c1, h.c2⟩
theorem FormAt.alloc (w : World) : FormAt (w.alloc (.cells #[.int .i64 52, .int .i64 11, .int .i64 (-1023)] 100)) w.heap.size := by
  refine ⟨?_, ?_, ?_⟩ <;> go_simp
theorem lL1_stop (f : Nat) (D : List Nat) (dp : Int) (e : Nat) (h : dp ≤ 0) : lL1 f D dp e = (D, dp, e) := by
  cases f with
  | zero => rfl
  | succ f => rw [lL1, if_neg (by omega)]
theorem lL2_stop (f : Nat) (D : List Nat) (dp : Int) (e : Nat) (h : ¬ (dp < 0 ∨ D.getD 0 0 < 5)) : lL2 f D dp e = (D, dp, e) := by
  cases f with
  | zero => rfl
  | succ f => rw [lL2, if_neg h]
/-- what the scaling loops keep of the world -/
structure BW (W : World) (B b F : Nat) (E : List Nat) (dq : Int) (wx : World) : Prop where
  ld : ∃ g cap, LD wx B b g cap E dq
  ok : LOk E
  fr : Fr b W wx
  form : FormAt wx F
theorem BW.next {W wx w' : World} {B b F : Nat} {E E' : List Nat} {dq dq' : Int} (h : BW W B b F E dq wx) (hne : F ≠ b) (hl : ∃ g cap, LD w' B b g cap E' dq') (hok : LOk E') (hf : Fr b wx w') : BW W B b F E' dq' w' :=
  ⟨hl, hok, h.fr.trans hf, h.form.fr hf hne⟩

set_option maxRecDepth 100000 in
set_option maxHeartbeats 2000000 in
theorem bitsW_far (w : World) (B b g cap : Nat) (D : List Nat) (dp : Int) (h : LD w B b g cap D dp) (hd : LOk D) (hlen : D.length ≤ 20000) (hdp : dp < -330 ∨ 310 < dp) :
    Calls Tryz.prog 56 #[.pointer (some ⟨b, 0, none⟩), .agg #[.int .i64 52, .int .i64 11, .int .i64 (-1023)]] w fun e w' => e = .returned (.tuple #[.int .u64 (lbits D dp).1, .bool (lbits D dp).2]) ∧ Below w.heap.size w w' := by
  have c0 := h.c0
  have c1 := h.c1
  have hcap := h.capMax
  have hDl : 1 ≤ D.length := List.length_pos_iff.2 hd.ne
  have hb := h.lt
  obtain ⟨n, hn⟩ : ∃ n, n = D.length := ⟨_, rfl⟩
  rw [← hn] at c0 hcap hlen hDl
  have q0 : ((n : Int) == 0) = false := by rw [beq_eq_false_iff_ne]; omega
  rcases hdp with hdp | hdp
  · have e : lbits D dp = (0, false) := by unfold lbits; rw [if_pos (Or.inr hdp)]
    rw [e]
    clear h hn e
    go_enter Tryz.func56, Tryz.ntmps56
    go_wp2_with fail
    go_quiet (fail)
    go_wp2_with fail
    go_ret2
    exact ⟨rfl, ⟨rfl, rfl, rfl, by simp, fun k hk => Below.heap_alloc _ _ _ hk⟩⟩
  · have e : lbits D dp = (infPos, true) := by unfold lbits; rw [if_neg (fun h => by rcases h with h | h; exact hd.ne h; omega), if_pos hdp]
    rw [e]
    have hlo : decide (dp < -330) = false := by simp; omega
    clear h hn e
    go_enter Tryz.func56, Tryz.ntmps56
    go_wp2_with fail
    go_quiet (fail)
    go_wp2_with fail
    go_ret2
    exact ⟨rfl, ⟨rfl, rfl, rfl, by simp, fun k hk => Below.heap_alloc _ _ _ hk⟩⟩
/-- an empty decimal -/
def LE (w : World) (b : Nat) (dp : Int) : Prop := ∃ v : Value, w.heap[b]? = some (.cells #[v, .int .i64 dp] 157 (0, 0)) ∧ (v = .slice none 0 0 ∨ ∃ a cap, cap ≤ maxLen ∧ v = .slice (some a) 0 cap)
set_option maxRecDepth 100000 in
set_option maxHeartbeats 2000000 in
theorem bitsW_nil (w : World) (b : Nat) (dp : Int) (h : LE w b dp) :
    Calls Tryz.prog 56 #[.pointer (some ⟨b, 0, none⟩), .agg #[.int .i64 52, .int .i64 11, .int .i64 (-1023)]] w fun e w' => e = .returned (.tuple #[.int .u64 0, .bool false]) ∧ Below w.heap.size w w' := by
  obtain ⟨v, h1, h2⟩ := h
  have hb : b < w.heap.size := (Array.getElem?_eq_some_iff.1 h1).1
  have c0 : w.cell? ⟨b, 0, none⟩ = some v := by rw [cell_of_row w b 0 _ 157 (0, 0) h1]; rfl
  clear h1
  rcases h2 with rfl | ⟨a, cap, hc, rfl⟩
  · go_enter Tryz.func56, Tryz.ntmps56
    go_wp2_with fail
    go_quiet (fail)
    go_wp2_with fail
    go_ret2
    exact ⟨rfl, ⟨rfl, rfl, rfl, by simp, fun k hk => Below.heap_alloc _ _ _ hk⟩⟩
  · unfold maxLen at hc
    go_enter Tryz.func56, Tryz.ntmps56
    go_wp2_with fail
    go_quiet (fail)
    go_wp2_with fail
    go_ret2
    exact ⟨rfl, ⟨rfl, rfl, rfl, by simp, fun k hk => Below.heap_alloc _ _ _ hk⟩⟩
end Go.Proofs.YtdfbokmjipdolaaGreatDoor
/- Plain bounds for the light decimal's bits. -/
namespace Go.Proofs.YtdfbokmjipdolaaGreatDoor
open Go.RowKit

theorem p331b : p10 331 ≤ p2 1100 := by decide +kernel
attribute [local irreducible] p2 p10
structure LRB (D1 : List Nat) (e : Nat) (D2 : List Nat) (j : Nat) : Prop where
  jb : j ≤ e + 1100
theorem lR_bound (D : List Nat) (dp : Int) (hd : LOk D) (hlen : D.length ≤ 20000) (hdp : -330 ≤ dp) (hdp' : dp ≤ 310) : (lR2 D dp).2.2 ≤ (lR1 D dp).2.2 + 1100 := by
  obtain ⟨s, hs⟩ : ∃ s : Nat, 100000000 ≤ s := ⟨_, Nat.le_refl _⟩
  obtain ⟨a1, a2, a3, a4, a5, a6, a7⟩ : L1 s D dp 0 (10 * dp.toNat + 9) (lR1 D dp) := lL1_ok s _ D dp 0 hd (by unfold m1; have := (num_head hd).2.2.2.1; omega) (by omega)
  obtain ⟨b1, b2, b3, b4, b5, b6, b7⟩ : L2 s (lR1 D dp).1 (lR1 D dp).2.1 0 (10 * (-(lR1 D dp).2.1).toNat + 10) (lR2 D dp) := lL2_ok s _ _ _ 0 a1 (by unfold m2; omega) a5 (by omega)
  generalize lR2 D dp = R2 at *
  generalize lR1 D dp = R1 at *
  obtain ⟨D1, dp1, e⟩ := R1
  obtain ⟨D2, dp2, j⟩ := R2
  simp only at *
  subst b5
  rw [Nat.pow_zero, Nat.mul_one] at a2 b2
  have hv : V s D2 0 * 2 ^ e = V s D dp * 2 ^ j := by rw [b2, ← a2, Nat.mul_right_comm]
  have h1 := (V_head b1 s 0 (by omega) (s - 1) (by omega)).2
  have h9 := (num_head b1).2.2.2.1
  have es : 10 ^ s = 10 * 10 ^ (s - 1) := by rw [← Nat.pow_succ']; congr 1; omega
  have hi : V s D2 0 < 10 ^ s := by
    rw [es]
    exact Nat.lt_of_lt_of_le h1 (Nat.mul_le_mul_right _ (by omega))
  have h2 := (V_head hd s dp (by omega) (s + dp - 1).toNat (by omega)).1
  have h3 : 1 * 10 ^ (s + dp - 1).toNat ≤ D.getD 0 0 * 10 ^ (s + dp - 1).toNat := Nat.mul_le_mul_right _ (num_head hd).2.2.1
  have h4 : 10 ^ (s - 331) ≤ 10 ^ (s + dp - 1).toNat := Nat.pow_le_pow_right (by decide) (by omega)
  have lo : 10 ^ (s - 331) ≤ V s D dp := by omega
  have e3 : 10 ^ s = 10 ^ (s - 331) * p10 331 := by
    have := p10_s (s - 331) 331
    rw [show s - 331 + 331 = s by omega] at this
    exact this
  have h5 : 10 ^ (s - 331) * 2 ^ j < 10 ^ (s - 331) * (p10 331 * 2 ^ e) := by
    rw [← Nat.mul_assoc, ← e3]
    refine Nat.lt_of_le_of_lt (Nat.mul_le_mul_right _ lo) ?_
    rw [← hv]
    exact Nat.mul_lt_mul_of_pos_right hi (Nat.two_pow_pos _)
  have h6 := Nat.lt_of_mul_lt_mul_left h5
  have h7 : 2 ^ j < 2 ^ (e + 1100) := by
    rw [p2_s, Nat.mul_comm]
    exact Nat.lt_of_lt_of_le h6 (Nat.mul_le_mul_right _ p331b)
  exact Nat.le_of_lt ((Nat.pow_lt_pow_iff_right (a := 2) (by decide)).1 h7)
structure LF (D2 : List Nat) (x : Int) : Prop where
  ok3 : LOk (lR3 D2 x).1
  len3 : (lR3 D2 x).1.length ≤ 310000
  lo3 : -400000 ≤ (lR3 D2 x).2
  hi3 : (lR3 D2 x).2 ≤ 0
  ok4 : LOk (lUp 54 (lR3 D2 x).1 (lR3 D2 x).2 53).1
  len4 : (lUp 54 (lR3 D2 x).1 (lR3 D2 x).2 53).1.length ≤ 320000
  lo4 : -800000 ≤ (lUp 54 (lR3 D2 x).1 (lR3 D2 x).2 53).2
  hi4 : (lUp 54 (lR3 D2 x).1 (lR3 D2 x).2 53).2 ≤ 2000
  n4 : hN (lUp 54 (lR3 D2 x).1 (lR3 D2 x).2 53).1 (lUp 54 (lR3 D2 x).1 (lR3 D2 x).2 53).2.toNat ≤ 9007199254740992
  w4 : wholeI (lUp 54 (lR3 D2 x).1 (lR3 D2 x).2 53).1 (lUp 54 (lR3 D2 x).1 (lR3 D2 x).2 53).2 ≤ 9007199254740992
theorem lF_ok (D2 : List Nat) (x : Int) (hd : LOk D2) (hl : D2.length ≤ 300000) (hx : -1102 ≤ x) : LF D2 x := by
  obtain ⟨s, hs⟩ : ∃ s : Nat, 100000000 ≤ s := ⟨_, Nat.le_refl _⟩
  have hV : V s D2 0 < 10 ^ s := by
    have h1 := (V_head hd s 0 (by omega) (s - 1) (by omega)).2
    have h9 := (num_head hd).2.2.2.1
    have es : 10 ^ s = 10 * 10 ^ (s - 1) := by rw [← Nat.pow_succ']; congr 1; omega
    rw [es]
    exact Nat.lt_of_lt_of_le h1 (Nat.mul_le_mul_right _ (by omega))
  have h3 : LOk (lR3 D2 x).1 ∧ V s (lR3 D2 x).1 (lR3 D2 x).2 ≤ V s D2 0 ∧ (lR3 D2 x).1.length ≤ 310000 ∧ -400000 ≤ (lR3 D2 x).2 ∧ (lR3 D2 x).2 ≤ 0 := by
    unfold lR3
    split
    · obtain ⟨c1, c2, c3, c4, c5⟩ := lDn_ok s ((-1022 - x).toNat + 1) D2 0 (-1022 - x).toNat hd (by omega) (by omega)
      refine ⟨c1, ?_, by omega, by omega, c5⟩
      rw [← c2]
      exact Nat.le_mul_of_pos_right _ (Nat.two_pow_pos _)
    · exact ⟨hd, Nat.le_refl _, by simp only; omega, by simp only; omega, by simp only; omega⟩
  obtain ⟨r1, r2, r3, r4, r5⟩ := h3
  obtain ⟨u1, u2, u3, u4, u5⟩ := lUp_ok s 54 (lR3 D2 x).1 (lR3 D2 x).2 53 r1 (by decide) (by omega)
  have e53 : (2 : Nat) ^ 53 = 9007199254740992 := rfl
  rw [e53] at u2
  have hlt4 : V s (lUp 54 (lR3 D2 x).1 (lR3 D2 x).2 53).1 (lUp 54 (lR3 D2 x).1 (lR3 D2 x).2 53).2 < 9007199254740992 * 10 ^ s := by
    rw [u2, Nat.mul_comm]
    exact Nat.mul_lt_mul_of_pos_left (Nat.lt_of_le_of_lt r2 hV) (by decide)
  refine ⟨r1, r3, r4, r5, u1, by omega, by omega, by omega, ?_, wholeI_le s u1.dig _ (by omega) hlt4⟩
  generalize lUp 54 (lR3 D2 x).1 (lR3 D2 x).2 53 = R4 at *
  obtain ⟨D4, dp4⟩ := R4
  simp only at *
  by_cases h0 : dp4 < 0
  · have : dp4.toNat = 0 := by omega
    rw [this]; simp [hN]
  · obtain ⟨n, rfl⟩ : ∃ n : Nat, dp4 = n := ⟨dp4.toNat, by omega⟩
    have h1 := (V_tail s u1.dig n (by omega)).1
    have := Nat.lt_of_mul_lt_mul_right (Nat.lt_of_le_of_lt h1 hlt4)
    rw [Int.toNat_natCast]
    omega
theorem lY_b (x : Int) : -1022 ≤ lY x ∧ (lY x = x ∨ lY x = -1022) ∧ x ≤ lY x := by unfold lY; split <;> omega
/-- the bits' last steps -/
theorem pack_facts (M : Nat) (hM : M < 9007199254740992) : bits BinOp.and IntKind.u64 (M : Int) 4503599627370496 = (((if M / 4503599627370496 % 2 = 0 then 0 else 4503599627370496 : Nat)) : Int) ∧ bits BinOp.and IntKind.u64 (M : Int) 4503599627370495 = ((M % 4503599627370496 : Nat) : Int) := by
  constructor
  · have h := bits_and_u64 M 4503599627370496 (by omega) (by decide)
    have h2 := pack_and52 false M (by omega)
    simp only [sgn, Bool.false_eq_true, if_false, Nat.zero_add] at h2
    rw [h2] at h
    have e : (if 4503599627370496 ≤ M ∧ M < 9007199254740992 then 4503599627370496 else 0) = (if M / 4503599627370496 % 2 = 0 then 0 else 4503599627370496 : Nat) := by
      split <;> split <;> omega
    rw [e] at h
    exact h
  · have h3 := bits_mask .u64 64 (by decide) wraps_u64 52 (by decide) (M : Int) (by omega) (by omega)
    rw [show (2 : Int) ^ 52 - 1 = 4503599627370495 from rfl] at h3
    rw [h3]; omega
theorem pack_or2 (F E : Nat) (hF : F < 4503599627370496) (hE : E < 2048) : bits BinOp.or IntKind.u64 (F : Int) ((E : Int) * 4503599627370496) = ((F + E * 4503599627370496 : Nat) : Int) := by
  have h3 := bits_or_u64 F (E * 4503599627370496) (by omega) (by omega)
  have h4 := pack_or false F E hF hE
  simp only [sgn, Bool.false_eq_true, if_false, Nat.zero_add] at h4
  rw [h4] at h3
  rw [← h3]; simp
end Go.Proofs.YtdfbokmjipdolaaGreatDoor
