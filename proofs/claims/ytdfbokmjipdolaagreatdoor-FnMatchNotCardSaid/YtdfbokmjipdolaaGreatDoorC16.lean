/- floatBits of Go's own decimal: the way through the loops. -/
import Derived.Test.YtdfbokmjipdolaaGreatDoorC15
set_option linter.unusedVariables false
set_option linter.unusedSimpArgs false
namespace Go.Proofs.YtdfbokmjipdolaaGreatDoor
open Go.RowKit

theorem outFacts (M E : Nat) (hM : M < 18446744073709551616) (hE : E ≤ 2046) : ∃ F B : Nat, B < 9223372036854775808 ∧ F < 4503599627370496 ∧
    bits BinOp.and IntKind.u64 (M : Int) 4503599627370495 = (F : Int) ∧ bits BinOp.and IntKind.i64 (E : Int) 2047 = (E : Int) ∧
    bits BinOp.or IntKind.u64 (F : Int) ((E : Int) * 4503599627370496) = (B : Int) ∧ bits BinOp.or IntKind.u64 (B : Int) 9223372036854775808 = ((9223372036854775808 + B : Nat) : Int) ∧ nan64 B = false ∧ nan64 (9223372036854775808 + B) = false := by
  have cF : M % 4503599627370496 < 4503599627370496 := by omega
  refine ⟨M % 4503599627370496, M % 4503599627370496 + E * 4503599627370496, by omega, cF, ?_, ?_, ?_, ?_, ?_⟩
  · have h3 := bits_mask .u64 64 (by decide) wraps_u64 52 (by decide) (M : Int) (by omega) (by omega)
    rw [show (2 : Int) ^ 52 - 1 = 4503599627370495 from rfl] at h3
    rw [h3]; omega
  · have h3 := bits_mask .i64 63 (by decide) (fun n h0 h1 => by rw [IntKind.wrap_i64]; omega) 11 (by decide) (E : Int) (by omega) (by omega)
    rw [show (2 : Int) ^ 11 - 1 = 2047 from rfl] at h3
    rw [h3]; omega
  · have h3 := bits_or_u64 (M % 4503599627370496) (E * 4503599627370496) (by omega) (by omega)
    have h4 := pack_or false (M % 4503599627370496) E cF (by omega)
    simp only [sgn, Bool.false_eq_true, if_false, Nat.zero_add] at h4
    rw [h4] at h3
    rw [← h3]; simp
  · have h3 := bits_or_u64 (M % 4503599627370496 + E * 4503599627370496) 9223372036854775808 (by omega) (by decide)
    have h4 := or_disj 9223372036854775808 (M % 4503599627370496 + E * 4503599627370496) true rfl (by omega)
    rw [Nat.or_comm, h4] at h3
    exact h3
  · unfold nan64 infPos
    constructor <;> (simp only [decide_eq_false_iff_not]; omega)
theorem and52 (M : Nat) (hM : M < 18446744073709551616) : ∃ G : Nat, bits BinOp.and IntKind.u64 (M : Int) 4503599627370496 = (G : Int) := ⟨_, bits_and_u64 M 4503599627370496 (by omega) (by decide)⟩

theorem PwAt.dr {w w1 : World} {b : Nat} (h : PwAt w b) (hD : Dr w w1) : PwAt w1 b := by
  obtain ⟨h0, tb, ofs, h1, h2, h3⟩ := h
  exact ⟨h0, tb, ofs, h1, by rw [hD.cell]; exact h2, fun i hi => by rw [hD.cell]; exact h3 i hi⟩
theorem LcAt.dr {w w1 : World} {b : Nat} (h : LcAt w b) (hD : Dr w w1) : LcAt w1 b := by
  obtain ⟨h0, tb, ofs, h1, h2, h3⟩ := h
  refine ⟨h0, tb, ofs, h1, by rw [hD.cell]; exact h2, fun k hk hk' => ?_⟩
  obtain ⟨dl, s, a, b, c⟩ := h3 k hk hk'
  exact ⟨dl, s, by rw [hD.cell]; exact a, by rw [hD.cell]; exact b, c⟩
theorem pwt_ok : ∀ i < 9, 1 ≤ pwt i ∧ pwt i ≤ 27 ∧ (0 < i → 2 ^ pwt i ≤ 10 ^ i) := by decide
theorem big_nine : (2 : Nat) ^ 27 ≤ 10 ^ 9 := by decide
theorem big_p : p2 27 ≤ p10 9 := big_nine
theorem pwt_p (i : Nat) (h0 : 0 < i) (h : i < 9) : p2 (pwt i) ≤ p10 i := (pwt_ok i h).2.2 h0

theorem dp0_of {d : Array Nat} {n : Nat} (hd : DN d n) (dp : Int) (hdp : -390 ≤ dp) (hS : sv d n dp < p10 1200) : dp ≤ 0 := by
  refine Decidable.byContradiction fun h => ?_
  have h1 := hd.sv_ge dp hdp (1199 + dp).toNat (by omega)
  have h2 := p10_lt (Nat.lt_of_le_of_lt h1 hS)
  omega
theorem p2_53 : p2 53 = 9007199254740992 := rfl
attribute [local irreducible] p2 p10
theorem s3_lt {S S3 : Nat} {dp3 : Int} (hL : LS S 53 S3 dp3) (hlt : S < p10 1200) : S3 < 9007199254740992 * p10 1200 := by
  have h1 := hL.le2
  rw [p2_53] at h1
  omega
theorem half_mul (q S : Nat) (h : 5 * q ≤ S) : q * 45035996273704960 ≤ S * 9007199254740992 := by omega
theorem edge_mul (q S : Nat) (h : 18014398509481983 * (10 * q) ≤ S * 18014398509481984) : q * 90071992547409915 ≤ S * 9007199254740992 := by omega
theorem edge {S : Nat} {d3 : Array Nat} {n3 : Nat} {dp3 : Int} {tr3 : Bool} (hN : DN d3 n3) (hdp : -390 ≤ dp3) (hL : LS S 53 (sv d3 n3 dp3) dp3) (hlt : S < p10 1200) (hhalf : 5 * p10 1199 ≤ S) :
    rint d3 n3 tr3 dp3 = 9007199254740992 ↔ 18014398509481983 * p10 1200 ≤ S * 18014398509481984 := by
  have h3 := s3_lt hL hlt
  have h16 := dp_of hN dp3 hdp h3
  have h1 := hL.le2
  rw [p2_53] at h1
  have hlow : 45035996273704960 * p10 1199 ≤ sv d3 n3 dp3 := by
    rw [Nat.mul_comm]
    refine hL.grid2 1199 45035996273704960 (by omega) ?_
    rw [p2_53]
    exact half_mul _ _ hhalf
  rw [rint_edge hN tr3 dp3 hdp h3 hlow, K_split]
  constructor
  · intro h; omega
  · intro h
    rw [Nat.mul_comm]
    refine hL.grid2 1199 90071992547409915 (by omega) ?_
    rw [p2_53]
    exact edge_mul _ _ h
theorem rint_le {d3 : Array Nat} {n3 : Nat} {dp3 : Int} (tr3 : Bool) (hN : DN d3 n3) (h16 : dp3 ≤ 16) : rint d3 n3 tr3 dp3 ≤ 10000000000000000 := by
  have h1 := px_lt hN dp3.toNat
  have h2 : (10 : Nat) ^ dp3.toNat ≤ 10 ^ 16 := Nat.pow_le_pow_right (by decide) (by omega)
  unfold rint
  split <;> omega
theorem step_neg {d : Array Nat} {n : Nat} (hd : DN d n) (dp : Int) (hdp : -390 ≤ dp) (q k : Nat) (hq : dp = -(q : Int)) (hk : p2 k ≤ p10 q) : sv d n dp * p2 k < p10 1200 := by
  have h1 := hd.sv_lt dp hdp (1200 + dp).toNat (by omega)
  have e : p10 1200 = p10 (1200 + dp).toNat * p10 q := by rw [← p10_add]; congr 1; omega
  rw [e]
  exact Nat.mul_lt_mul_of_lt_of_le h1 hk (p10_pos q)
theorem first_dig {d : Array Nat} {n : Nat} (hd : DN d n) : px d n 1 = d.getD 0 0 - 48 := by
  have : px d n 1 = 0 * 10 + dg d n 0 := rfl
  rw [this, dg, if_pos hd.n0]; omega
theorem step_zero {d : Array Nat} {n : Nat} (hd : DN d n) (hv : d.getD 0 0 < 53) : sv d n 0 * p2 1 < p10 1200 := by
  have h1 := (px_sv hd 0 (by decide) 1 1199 (by omega)).2
  rw [first_dig hd] at h1
  have h2 : (d.getD 0 0 - 48 + 1) * p10 1199 ≤ 5 * p10 1199 := Nat.mul_le_mul_right _ (by omega)
  rw [K_split, p2_1]
  omega
theorem half_le {d : Array Nat} {n : Nat} (hd : DN d n) (hv : 53 ≤ d.getD 0 0) : 5 * p10 1199 ≤ sv d n 0 := by
  have h1 := (px_sv hd 0 (by decide) 1 1199 (by omega)).1
  rw [first_dig hd] at h1
  exact Nat.le_trans (Nat.mul_le_mul_right _ (by omega)) h1
theorem sv_869 {d : Array Nat} {n : Nat} (hd : DN d n) (dp : Int) (hdp : -330 ≤ dp) : p10 869 ≤ sv d n dp := by
  have h1 := hd.sv_ge dp (by omega) (1199 + dp).toNat (by omega)
  exact Nat.le_trans (p10_mono (by omega)) h1

set_option maxRecDepth 100000 in
set_option maxHeartbeats 4000000 in
theorem fbits_main (w : World) (b : Nat) (t : TypeId) (d : Array Nat) (n : Nat) (dp : Int) (ng tr : Bool) (hb : b < w.heap.size) (hd : DN d n) (hdp : -330 ≤ dp) (hdp' : dp ≤ 310) (hb4 : b ≠ 4) (hi : InfoAt w) (hlc : LcAt w b) (hpw : PwAt w b) :
    Calls Tryz.prog 74 #[.pointer (some ⟨b, 0, none⟩), .pointer (some ⟨4, 0, none⟩)] (wD w b t d n dp ng tr) (FBPost w b t (sv d n dp) ng) := by
  have hs := hd.size
  have hn0 := hd.n0
  have hn8 := hd.n8
  have Hd := Lib.hid hd
  have Hi := Lib.hid hi
  have Hlc := Lib.hid hlc
  have Hpw := Lib.hid hpw
  clear hd hi hlc hpw
  obtain ⟨S0, hS0⟩ : ∃ S0, S0 = sv d n dp := ⟨_, rfl⟩
  have hS0b : S0 < p10 1510 := by
    rw [hS0]
    exact Nat.lt_of_lt_of_le (Hd.out.sv_lt dp (by omega) (1200 + dp).toNat (by omega)) (p10_mono (by omega))
  have hF1 : F1 S0 0 (sv d n dp) := by rw [← hS0]; exact F1.start S0
  rw [← hS0]
  have HF0 := Lib.hid hF1
  have HS0b := Lib.hid hS0b
  clear hS0 hF1 hS0b
  have g0 : ((n : Int) == 0) = false := by rw [beq_eq_false_iff_ne]; omega
  go_enter Tryz.func74, Tryz.ntmps74
  go_wp2_with fail
  refine wp_scope_fwd fun J hJ => ?_
  have h0 := hJ 0 _ rfl
  have h1 := hJ 1 _ rfl
  have H0 := Lib.hid h0
  have H1 := Lib.hid h1
  clear hJ h0 h1
  go_upto_block 0 with fail
  go_cut [6] (fun s6 wx => ∃ (e : Nat) (w1 : World) (d1 : Array Nat) (n1 : Nat) (dp1 : Int) (tr1 : Bool), s6 = .int .i64 e ∧ e ≤ 1057 ∧ Dr w w1 ∧ Hid (DN d1 n1) ∧ -330 ≤ dp1 ∧ dp1 ≤ 0 ∧ Hid (F1 S0 e (sv d1 n1 dp1)) ∧ wx = wD w1 b t d1 n1 dp1 ng tr1)
  case first =>
    go_wp2_with fail
    go_loopg [6] 1100 (fun g s6 wx => ∃ (e : Nat) (w1 : World) (d1 : Array Nat) (n1 : Nat) (dp1 : Int) (tr1 : Bool), g = 1100 - e ∧ s6 = .int .i64 e ∧ e ≤ 1057 ∧ Dr w w1 ∧ Hid (DN d1 n1) ∧ -330 ≤ dp1 ∧ dp1 ≤ 310 ∧ Hid (F1 S0 e (sv d1 n1 dp1)) ∧ wx = wD w1 b t d1 n1 dp1 ng tr1)
    case atStart => exact ⟨0, w, d, n, dp, tr, rfl, rfl, by omega, Dr.rfl' w, Hd, hdp, hdp', HF0, rfl⟩
    case round =>
      clear g0 hs hn0 hn8 HF0 Hd hdp hdp'
      obtain ⟨e, w1, d1, n1, dp1, tr1, hg, rfl, he, hD, Hd, hdp, hdp', HF, rfl⟩ := hrel
      have Hg := Lib.hid hg
      have HD := Lib.hid hD
      have hs := Hd.out.size
      clear hg hD
      have hb1 : b < w1.heap.size := by rw [HD.out.size]; exact hb
      by_cases hp : 0 < dp1
      · have he2 : e < 1030 := HF.out.ebound (Nat.le_trans (p10_mono (by omega)) (Hd.out.sv_ge dp1 (by omega) (1199 + dp1).toNat (by omega))) HS0b.out
        obtain ⟨hb10, tb, ofs, htb, c10, ct⟩ := Hpw.out.dr HD.out
        by_cases hp9 : 9 ≤ dp1
        · as_aux_lemma =>
          obtain ⟨W, hW⟩ : ∃ W, W = wD w1 b t d1 n1 dp1 ng tr1 := ⟨_, rfl⟩
          have F : FbAt W b n1 dp1 ng := by rw [hW]; exact FbAt.of HD.out hb hs hb4 Hi.out
          obtain ⟨f1, f2, f3, i0, i1, i2⟩ := F
          rw [← hW]
          have HW := Lib.hid hW
          clear hW
          have c10' : W.cell? ⟨10, 0, none⟩ = some (.slice (some ⟨tb, ofs, none⟩) 9 9) := by rw [HW.out, cell_ne (by exact Ne.symm hb10)]; exact c10
          go_wp2_with fail
          go_quiet (fail)
          go_upto_region 16 with fail
          rw [HW.out]
          simp only [wD_drewN, World.drewN_drewN]
          generalize hw2 : w1.drewN _ = w2
          have hD2 : Dr w w2 := by rw [← hw2]; exact HD.out.more _
          have hb2 : b < w2.heap.size := by rw [hD2.size]; exact hb
          have HD2 := Lib.hid hD2
          clear hw2 hD2 HW c10' f1 f2 f3 i0 i1 i2
          have hc : Calls Tryz.prog 112 #[.pointer (some ⟨b, 0, none⟩), .int .i64 (-27)] (wD w2 b t d1 n1 dp1 ng tr1) (RightPost w2 b t d1 n1 dp1 ng 27) := shiftR_any w2 b t d1 n1 dp1 ng tr1 27 hb2 Hd.out (by omega) (by omega) (by omega) (by omega)
          go_wp2_with (go_at_call 112; refine hc.mono ?_; rintro e w' ⟨rfl, w3, d3, n3, dp3, tr3, h23, rfl, hN3, hR3, q1, q2⟩)
          go_roundg (1100 - (e + 27))
          case measure => have := Hg.out; omega
          case rel =>
            exact ⟨e + 27, w3, d3, n3, dp3, tr3, rfl, vi (by omega), by omega, HD2.out.trans h23, Lib.hid hN3, by omega, by omega, Lib.hid (HF.out.next hR3 (by omega) (by omega)), rfl⟩
        · as_aux_lemma =>
          obtain ⟨W, hW⟩ : ∃ W, W = wD w1 b t d1 n1 dp1 ng tr1 := ⟨_, rfl⟩
          have F : FbAt W b n1 dp1 ng := by rw [hW]; exact FbAt.of HD.out hb hs hb4 Hi.out
          obtain ⟨f1, f2, f3, i0, i1, i2⟩ := F
          rw [← hW]
          have HW := Lib.hid hW
          clear hW
          have c10' : W.cell? ⟨10, 0, none⟩ = some (.slice (some ⟨tb, ofs, none⟩) 9 9) := by rw [HW.out, cell_ne (by exact Ne.symm hb10)]; exact c10
          obtain ⟨q, hq⟩ : ∃ q : Nat, dp1 = q := ⟨dp1.toNat, by omega⟩
          obtain ⟨K, hK⟩ : ∃ K : Nat, K = pwt q := ⟨_, rfl⟩
          have bK : 1 ≤ K ∧ K ≤ 27 := by rw [hK]; have := pwt_ok q (by omega); omega
          have ck : W.cell? ⟨tb, ofs + q, none⟩ = some (.int .i64 K) := by rw [hK, HW.out, cell_ne (by exact htb)]; exact ct q (by omega)
          have HK := Lib.hid hK
          clear hK
          have Hq := Lib.hid hq
          have eq1 : dp1.toNat = q := by omega
          clear hq
          go_wp2_with fail
          go_quiet (fail)
          go_wp2_with fail
          go_quiet (fail)
          go_upto_region 16 with fail
          rw [HW.out]
          simp only [wD_drewN, World.drewN_drewN]
          generalize hw2 : w1.drewN _ = w2
          have hD2 : Dr w w2 := by rw [← hw2]; exact HD.out.more _
          have hb2 : b < w2.heap.size := by rw [hD2.size]; exact hb
          have HD2 := Lib.hid hD2
          clear hw2 hD2 HW c10' f1 f2 f3 i0 i1 i2
          have hc : Calls Tryz.prog 112 #[.pointer (some ⟨b, 0, none⟩), .int .i64 (-(K : Int))] (wD w2 b t d1 n1 dp1 ng tr1) (RightPost w2 b t d1 n1 dp1 ng K) := shiftR_any w2 b t d1 n1 dp1 ng tr1 K hb2 Hd.out (by omega) (by omega) (by omega) (by omega)
          go_wp2_with (go_at_call 112; refine hc.mono ?_; rintro e w' ⟨rfl, w3, d3, n3, dp3, tr3, h23, rfl, hN3, hR3, q1, q2⟩)
          go_roundg (1100 - (e + K))
          case measure => have := Hg.out; omega
          case rel =>
            exact ⟨e + K, w3, d3, n3, dp3, tr3, rfl, vi (by omega), by omega, HD2.out.trans h23, Lib.hid hN3, by omega, by omega, Lib.hid (HF.out.next hR3 (by omega) (by omega)), rfl⟩
      · as_aux_lemma =>
          go_wp2_with fail
          go_meet
          exact ⟨e, w1, d1, n1, dp1, tr1, rfl, he, HD.out, Hd, hdp, by omega, HF, rfl⟩
  case rest =>
    clear g0 hs hn0 hn8 HF0 Hd hdp hdp'
    obtain ⟨e, w1, d1, n1, dp1, tr1, rfl, he, hD, Hd, hdp, hdp', HF, rfl⟩ := hcut
    go_upto_block 2 with fail
    go_cut [6] (fun s6 wx => ∃ (j : Nat) (w1 : World) (d1 : Array Nat) (n1 : Nat) (tr1 : Bool), s6 = .int .i64 ((e : Int) - j) ∧ j ≤ 1100 ∧ Dr w w1 ∧ Hid (DN d1 n1) ∧ Hid (F2 S0 e j (sv d1 n1 0)) ∧ Hid (5 * p10 1199 ≤ sv d1 n1 0) ∧ wx = wD w1 b t d1 n1 0 ng tr1)
    case first =>
      have HF2 : Hid (F2 S0 e 0 (sv d1 n1 dp1)) := Lib.hid (F2.start HF.out (sv_869 Hd.out dp1 hdp))
      have HD1 := Lib.hid hD
      go_wp2_with fail
      go_loopg [6] 1200 (fun g s6 wx => ∃ (j : Nat) (w1 : World) (d1 : Array Nat) (n1 : Nat) (dp1 : Int) (tr1 : Bool), g = 1200 - j ∧ s6 = .int .i64 ((e : Int) - j) ∧ j ≤ 1127 ∧ Dr w w1 ∧ Hid (DN d1 n1) ∧ -330 ≤ dp1 ∧ dp1 ≤ 0 ∧ Hid (F2 S0 e j (sv d1 n1 dp1)) ∧ wx = wD w1 b t d1 n1 dp1 ng tr1)
      case atStart => exact ⟨0, w1, d1, n1, dp1, tr1, rfl, vi (by omega), by omega, HD1.out, Hd, hdp, hdp', HF2, rfl⟩
      case round =>
        clear HF2 HD1 Hd hdp hdp' HF hD
        obtain ⟨j, w1, d1, n1, dp1, tr1, hg, rfl, hj, hD, Hd, hdp, hdp', HF, rfl⟩ := hrel
        have Hg := Lib.hid hg
        have HD := Lib.hid hD
        have hs := Hd.out.size
        clear hg hD
        have hb1 : b < w1.heap.size := by rw [HD.out.size]; exact hb
        have hj2 : j < 1100 := HF.out.jbound (Nat.lt_of_lt_of_le (Hd.out.sv_lt dp1 (by omega) (1200 + dp1).toNat (by omega)) (p10_mono (by omega)))
        obtain ⟨hb10, tb, ofs, htb, c10, ct⟩ := Hpw.out.dr HD.out
        obtain ⟨v, hv⟩ : ∃ v, v = d1.getD 0 0 := ⟨_, rfl⟩
        have hvd := Hd.out.dig 0 Hd.out.n0
        rw [← hv] at hvd
        by_cases hp : dp1 < 0
        · have gp : decide (dp1 < 0) = true := by simpa using hp
          by_cases hp9 : dp1 ≤ -9
          · as_aux_lemma =>
            obtain ⟨W, hW⟩ : ∃ W, W = wD w1 b t d1 n1 dp1 ng tr1 := ⟨_, rfl⟩
            have F : FbAt W b n1 dp1 ng := by rw [hW]; exact FbAt.of HD.out hb hs hb4 Hi.out
            obtain ⟨f1, f2, f3, i0, i1, i2⟩ := F
            rw [← hW]
            have HW := Lib.hid hW
            clear hW
            have c10' : W.cell? ⟨10, 0, none⟩ = some (.slice (some ⟨tb, ofs, none⟩) 9 9) := by rw [HW.out, cell_ne (by exact Ne.symm hb10)]; exact c10
            have hK9 : sv d1 n1 dp1 * p2 27 < p10 1200 := by
              obtain ⟨q, hq⟩ : ∃ q : Nat, dp1 = -(q : Int) := ⟨(-dp1).toNat, by omega⟩
              exact step_neg Hd.out dp1 (by omega) q 27 hq (Nat.le_trans big_p (p10_mono (show 9 ≤ q by omega)))
            have HK := Lib.hid hK9
            clear hK9 hv
            go_wp2_with fail
            go_quiet (fail)
            go_upto_region 23 with fail
            rw [HW.out]
            simp only [wD_drewN, World.drewN_drewN]
            generalize hw2 : w1.drewN _ = w2
            have hD2 : Dr w w2 := by rw [← hw2]; exact HD.out.more _
            have hb2 : b < w2.heap.size := by rw [hD2.size]; exact hb
            have HD2 := Lib.hid hD2
            clear hw2 hD2 HW c10' f1 f2 f3 i0 i1 i2
            have hc : Calls Tryz.prog 112 #[.pointer (some ⟨b, 0, none⟩), .int .i64 27] (wD w2 b t d1 n1 dp1 ng tr1) (LeftPost w2 b t d1 n1 dp1 ng 27) := shiftL_any w2 b t d1 n1 dp1 ng tr1 27 hb2 Hd.out (by omega) (by omega) (by omega) (by omega) (Hlc.out.dr HD2.out)
            go_wp2_with (go_at_call 112; refine hc.mono ?_; rintro e w' ⟨rfl, w3, d3, n3, dp3, tr3, h23, rfl, hN3, hR3, q1, q2⟩)
            have hdp3 : dp3 ≤ 0 := dp0_of hN3 dp3 (by omega) (Nat.lt_of_le_of_lt hR3.le2 HK.out)
            go_roundg (1200 - (j + 27))
            case measure => have := Hg.out; omega
            case rel =>
              exact ⟨j + 27, w3, d3, n3, dp3, tr3, rfl, vi (by omega), by omega, HD2.out.trans h23, Lib.hid hN3, by omega, hdp3, Lib.hid (HF.out.next hR3 (by omega) (by omega)), rfl⟩
          · as_aux_lemma =>
            obtain ⟨W, hW⟩ : ∃ W, W = wD w1 b t d1 n1 dp1 ng tr1 := ⟨_, rfl⟩
            have F : FbAt W b n1 dp1 ng := by rw [hW]; exact FbAt.of HD.out hb hs hb4 Hi.out
            obtain ⟨f1, f2, f3, i0, i1, i2⟩ := F
            rw [← hW]
            have HW := Lib.hid hW
            clear hW
            have c10' : W.cell? ⟨10, 0, none⟩ = some (.slice (some ⟨tb, ofs, none⟩) 9 9) := by rw [HW.out, cell_ne (by exact Ne.symm hb10)]; exact c10
            obtain ⟨q, hq⟩ : ∃ q : Nat, dp1 = -(q : Int) := ⟨(-dp1).toNat, by omega⟩
            obtain ⟨K, hK⟩ : ∃ K : Nat, K = pwt q := ⟨_, rfl⟩
            have bK : 1 ≤ K ∧ K ≤ 27 := by rw [hK]; have := pwt_ok q (by omega); omega
            have ck : W.cell? ⟨tb, ofs + q, none⟩ = some (.int .i64 K) := by rw [hK, HW.out, cell_ne (by exact htb)]; exact ct q (by omega)
            have hK9 : sv d1 n1 dp1 * p2 K < p10 1200 := step_neg Hd.out dp1 (by omega) q K hq (by rw [hK]; exact pwt_p q (by omega) (by omega))
            have HK := Lib.hid hK9
            have eq1 : -dp1 = (q : Int) := by omega
            have eq3 : q < 9 := by omega
            clear hK hK9 hv hq
            go_wp2_with fail
            go_quiet (fail)
            go_wp2_with fail
            go_quiet (fail)
            go_upto_region 23 with fail
            rw [HW.out]
            simp only [wD_drewN, World.drewN_drewN]
            generalize hw2 : w1.drewN _ = w2
            have hD2 : Dr w w2 := by rw [← hw2]; exact HD.out.more _
            have hb2 : b < w2.heap.size := by rw [hD2.size]; exact hb
            have HD2 := Lib.hid hD2
            clear hw2 hD2 HW c10' f1 f2 f3 i0 i1 i2
            have hc : Calls Tryz.prog 112 #[.pointer (some ⟨b, 0, none⟩), .int .i64 (K : Int)] (wD w2 b t d1 n1 dp1 ng tr1) (LeftPost w2 b t d1 n1 dp1 ng K) := shiftL_any w2 b t d1 n1 dp1 ng tr1 K hb2 Hd.out (by omega) (by omega) (by omega) (by omega) (Hlc.out.dr HD2.out)
            go_wp2_with (go_at_call 112; refine hc.mono ?_; rintro e w' ⟨rfl, w3, d3, n3, dp3, tr3, h23, rfl, hN3, hR3, q1, q2⟩)
            have hdp3 : dp3 ≤ 0 := dp0_of hN3 dp3 (by omega) (Nat.lt_of_le_of_lt hR3.le2 HK.out)
            go_roundg (1200 - (j + K))
            case measure => have := Hg.out; omega
            case rel =>
              exact ⟨j + K, w3, d3, n3, dp3, tr3, rfl, vi (by omega), by omega, HD2.out.trans h23, Lib.hid hN3, by omega, hdp3, Lib.hid (HF.out.next hR3 (by omega) (by omega)), rfl⟩
        · have hp0 : dp1 = 0 := by omega
          subst hp0
          by_cases hv53 : v < 53
          · as_aux_lemma =>
              obtain ⟨W, hW⟩ : ∃ W, W = wD w1 b t d1 n1 0 ng tr1 := ⟨_, rfl⟩
              have F : FbAt W b n1 0 ng := by rw [hW]; exact FbAt.of HD.out hb hs hb4 Hi.out
              obtain ⟨f1, f2, f3, i0, i1, i2⟩ := F
              rw [← hW]
              have HW := Lib.hid hW
              clear hW
              have c10' : W.cell? ⟨10, 0, none⟩ = some (.slice (some ⟨tb, ofs, none⟩) 9 9) := by rw [HW.out, cell_ne (by exact Ne.symm hb10)]; exact c10
              have cv : W.cell? ⟨b, 0, none⟩ = some (.int .u8 v) := by rw [HW.out, hv]; exact cell_lo hb1 hs (by decide)
              have ck : W.cell? ⟨tb, ofs, none⟩ = some (.int .i64 1) := by rw [HW.out, cell_ne (by exact htb)]; exact ct 0 (by decide)
              have ck0 : W.cell? ⟨tb, ofs + 0, none⟩ = some (.int .i64 1) := ck
              have gv : decide ((v : Int) < 53) = true := by simp; omega
              have gv2 : decide (v < 53) = true := by simp; omega
              have hK9 : sv d1 n1 0 * p2 1 < p10 1200 := step_zero Hd.out (by rw [← hv]; exact hv53)
              have HK := Lib.hid hK9
              clear hK9 hv
              go_wp2_with fail
              go_quiet (fail)
              go_wp2_with fail
              go_quiet (fail)
              go_upto_region 23 with fail
              rw [HW.out]
              simp only [wD_drewN, World.drewN_drewN]
              generalize hw2 : w1.drewN _ = w2
              have hD2 : Dr w w2 := by rw [← hw2]; exact HD.out.more _
              have hb2 : b < w2.heap.size := by rw [hD2.size]; exact hb
              have HD2 := Lib.hid hD2
              clear hw2 hD2 HW c10' f1 f2 f3 i0 i1 i2
              have hc : Calls Tryz.prog 112 #[.pointer (some ⟨b, 0, none⟩), .int .i64 1] (wD w2 b t d1 n1 0 ng tr1) (LeftPost w2 b t d1 n1 0 ng 1) := shiftL_any w2 b t d1 n1 0 ng tr1 1 hb2 Hd.out (by omega) (by omega) (by omega) (by omega) (Hlc.out.dr HD2.out)
              go_wp2_with (go_at_call 112; refine hc.mono ?_; rintro e w' ⟨rfl, w3, d3, n3, dp3, tr3, h23, rfl, hN3, hR3, q1, q2⟩)
              have hdp3 : dp3 ≤ 0 := dp0_of hN3 dp3 (by omega) (Nat.lt_of_le_of_lt hR3.le2 HK.out)
              go_roundg (1200 - (j + 1))
              case measure => have := Hg.out; omega
              case rel =>
                exact ⟨j + 1, w3, d3, n3, dp3, tr3, rfl, vi (by omega), by omega, HD2.out.trans h23, Lib.hid hN3, by omega, hdp3, Lib.hid (HF.out.next hR3 (by omega) (by omega)), rfl⟩
          · as_aux_lemma =>
              have hhalf := half_le Hd.out (by rw [← hv]; omega)
              have Hhalf := Lib.hid hhalf
              have Hv := Lib.hid hv
              have cv : (wD w1 b t d1 n1 0 ng tr1).cell? ⟨b, 0, none⟩ = some (.int .u8 v) := by rw [hv]; exact cell_lo hb1 hs (by decide)
              have gv : decide ((v : Int) < 53) = false := by simp; omega
              have gv2 : decide (v < 53) = false := by simp; omega
              clear hhalf hv
              go_wp2_with fail
              go_meet
              exact ⟨j, w1, d1, n1, tr1, rfl, by omega, HD.out, Hd, HF, Hhalf, rfl⟩
    case rest =>
      clear Hd hdp hdp' HF hD
      obtain ⟨j, w1, d1, n1, tr1, rfl, hj, hD, Hd, HF, HH, rfl⟩ := hcut
      obtain ⟨Y, hY⟩ : ∃ Y : Int, Y = (e : Int) - j := ⟨_, rfl⟩
      rw [← hY]
      have bY1 : -1100 ≤ Y := by omega
      have bY2 : Y ≤ 1057 := by omega
      have HY := Lib.hid hY
      have HD := Lib.hid hD
      have hs := Hd.out.size
      have hb1 : b < w1.heap.size := by rw [HD.out.size]; exact hb
      clear hY hD hj he
      obtain ⟨A, hA⟩ : ∃ A, A = decide (Y - 1 < -1022) := ⟨_, rfl⟩
      go_upto_region 26 with fail
      go_cut [111] (fun v wx => v = .bool A ∧ wx = wD w1 b t d1 n1 0 ng tr1)
      case first =>
        as_aux_lemma =>
          obtain ⟨W, hW⟩ : ∃ W, W = wD w1 b t d1 n1 0 ng tr1 := ⟨_, rfl⟩
          have F : FbAt W b n1 0 ng := by rw [hW]; exact FbAt.of HD.out hb hs hb4 Hi.out
          obtain ⟨f1, f2, f3, i0, i1, i2⟩ := F
          rw [← hW]
          have HW := Lib.hid hW
          clear hW
          go_wp2_with fail
          go_meet
          exact ⟨by rw [hA], HW.out⟩
      case rest =>
        obtain ⟨rfl, rfl⟩ := hcut
        go_upto_if 111 with fail
        go_cut [6] (fun s6 wx => ∃ (X : Int) (w1 : World) (d1 : Array Nat) (n1 : Nat) (dp1 : Int) (tr1 : Bool), s6 = .int .i64 X ∧ -1022 ≤ X ∧ X ≤ 1100 ∧ Dr w w1 ∧ Hid (DN d1 n1) ∧ -330 ≤ dp1 ∧ dp1 ≤ 0 ∧ Hid ((X ≤ 1022 ∧ ¬ bigS S0) ∨ (X = 1023 ∧ dp1 = 0 ∧ 5 * p10 1199 ≤ sv d1 n1 0 ∧ (bigS S0 ↔ 18014398509481983 * p10 1200 ≤ sv d1 n1 0 * 18014398509481984)) ∨ (1024 ≤ X ∧ bigS S0)) ∧ wx = wD w1 b t d1 n1 dp1 ng tr1)
        case first =>
          as_aux_lemma =>
            have hlt : sv d1 n1 0 < p10 1200 := Hd.out.sv_lt 0 (by decide) 1200 (by decide)
            by_cases hfar : Y - 1 < -1022
            · have hA' : A = true := by rw [hA]; simpa using hfar
              obtain ⟨k, hk⟩ : ∃ k : Nat, (k : Int) = -1022 - (Y - 1) := ⟨(-1022 - (Y - 1)).toNat, by omega⟩
              have hc := shiftFar_any w1 b t d1 n1 0 ng tr1 k hb1 Hd.out (by omega) (by omega) (by decide) (by decide)
              have ek : -1022 - (Y - 1) = (k : Int) := hk.symm
              have nb : ¬ bigS S0 := HF.out.lo hlt (by have := HY.out; omega)
              have Nb := Lib.hid nb
              have Hk := Lib.hid hk
              subst hA'
              clear hA hk nb hlt
              have i2 : (wD w1 b t d1 n1 0 ng tr1).cell? ⟨4, 2, none⟩ = some (.int .i64 (-1023)) := (FbAt.of HD.out hb hs hb4 Hi.out).i2
              go_wp2_with (go_at_call 112; refine hc.mono ?_; rintro e w' ⟨rfl, w3, d3, n3, dp3, tr3, h23, rfl, hN3, q1, q2⟩)
              go_meet
              exact ⟨-1022, w3, d3, n3, dp3, tr3, vi (by have := Hk.out; omega), by omega, by omega, HD.out.trans h23, Lib.hid hN3, by omega, by omega, Lib.hid (Or.inl ⟨by omega, Nb.out⟩), rfl⟩
            · have hA' : A = false := by rw [hA]; simpa using hfar
              have hH : ((Y - 1 ≤ 1022 ∧ ¬ bigS S0) ∨ (Y - 1 = 1023 ∧ (0 : Int) = 0 ∧ 5 * p10 1199 ≤ sv d1 n1 0 ∧ (bigS S0 ↔ 18014398509481983 * p10 1200 ≤ sv d1 n1 0 * 18014398509481984)) ∨ (1024 ≤ Y - 1 ∧ bigS S0)) := by
                have hY := HY.out
                rcases Int.lt_trichotomy Y 1024 with h | h | h
                · exact Or.inl ⟨by omega, HF.out.lo hlt (by omega)⟩
                · exact Or.inr (Or.inl ⟨by omega, rfl, HH.out, HF.out.eqv (by omega)⟩)
                · exact Or.inr (Or.inr ⟨by omega, HF.out.hi HH.out (by omega)⟩)
              have HHH := Lib.hid hH
              subst hA'
              clear hA hH hlt
              go_wp2_with fail
              go_meet
              exact ⟨Y - 1, w1, d1, n1, 0, tr1, rfl, by omega, by omega, HD.out, Hd, by omega, by omega, Lib.hid (by rcases HHH.out with h | ⟨h1, _, h2⟩ | h; exact Or.inl h; exact Or.inr (Or.inl ⟨h1, rfl, h2⟩); exact Or.inr (Or.inr h)), rfl⟩
        case rest =>
          clear HF HH Hd HD hb1 hs hA
          obtain ⟨X, w1, d1, n1, dp1, tr1, rfl, bX1, bX2, hD, Hd, hdp, hdp', HH, rfl⟩ := hcut
          have HD := Lib.hid hD
          have hs := Hd.out.size
          have hb1 : b < w1.heap.size := by rw [HD.out.size]; exact hb
          clear hD
          go_upto_region 30 with fail
          obtain ⟨W, hW⟩ : ∃ W, W = wD w1 b t d1 n1 dp1 ng tr1 := ⟨_, rfl⟩
          have F : FbAt W b n1 dp1 ng := by rw [hW]; exact FbAt.of HD.out hb hs hb4 Hi.out
          obtain ⟨f1, f2, f3, i0, i1, i2⟩ := F
          rw [← hW]
          have HW := Lib.hid hW
          clear hW
          by_cases hX : 1024 ≤ X
          · as_aux_lemma =>
              have hbig : bigS S0 := by
                rcases HH.out with h | h | h
                · omega
                · omega
                · exact h.2
              have Hbig := Lib.hid hbig
              have h1 := H1.out
              clear hbig H0
              have gX : decide ((2047 : Int) ≤ X + 1023) = true := by simp; omega
              go_quiet (fail)
              go_wp2_with fail
              refine wp_goto (h1 _ _ ?_)
              go_wp2_with fail
              go_quiet (fail)
              go_wp2_with fail
              go_step3
              have q1 := ov_and0
              have q2 := ov_and1
              have q3 := ov_or0
              have q4 := ov_or1
              go_wp2_with fail
              go_quiet (fail)
              cases ng
              · go_wp2_with fail
                rw [Exit.noGoto_ret]
                go_ret2
                exact FBPost.of HW.out HD.out hs (by first | exact (Dr.rfl' _).more _ | exact ((Dr.rfl' _).more _).more _ | exact (((Dr.rfl' _).more _).more _).more _) (B := 9218868437227405312) (ov := true) rfl (by decide) (by decide) ⟨fun _ => Hbig.out, fun _ => rfl⟩
              · go_wp2_with fail
                go_quiet (fail)
                go_wp2_with fail
                rw [Exit.noGoto_ret]
                go_ret2
                exact FBPost.of HW.out HD.out hs (by first | exact (Dr.rfl' _).more _ | exact ((Dr.rfl' _).more _).more _ | exact (((Dr.rfl' _).more _).more _).more _) (B := 18442240474082181120) (ov := true) rfl (by decide) (by decide) ⟨fun _ => Hbig.out, fun _ => rfl⟩
          · have gX : decide ((2047 : Int) ≤ X + 1023) = false := by simp; omega
            go_quiet (fail)
            go_upto_region 31 with fail
            rw [HW.out]
            simp only [wD_drewN, World.drewN_drewN]
            generalize hw2 : w1.drewN _ = w2
            have hD2 : Dr w w2 := by rw [← hw2]; exact HD.out.more _
            have hb2 : b < w2.heap.size := by rw [hD2.size]; exact hb
            have HD2 := Lib.hid hD2
            have i0 : (wD w2 b t d1 n1 dp1 ng tr1).cell? ⟨4, 0, none⟩ = some (.int .u64 52) := (FbAt.of hD2 hb hs hb4 Hi.out).i0
            have hc : Calls Tryz.prog 112 #[.pointer (some ⟨b, 0, none⟩), .int .i64 53] (wD w2 b t d1 n1 dp1 ng tr1) (LeftPost w2 b t d1 n1 dp1 ng 53) := shiftL_any w2 b t d1 n1 dp1 ng tr1 53 hb2 Hd.out (by omega) (by omega) (by omega) (by omega) (Hlc.out.dr HD2.out)
            have i0' := i0
            clear hw2 hD2 HW f1 f2 f3 i1 i2
            go_upto_region 32 with (go_at_call 112; refine hc.mono ?_; rintro e w' ⟨rfl, w3, d3, n3, dp3, tr3, h23, rfl, hN3, hL3, r1, r2⟩)
            have hD3 : Dr w w3 := HD2.out.trans h23
            have hb3 : b < w3.heap.size := by rw [hD3.size]; exact hb
            have hs3 := hN3.size
            have hlt : sv d1 n1 dp1 < p10 1200 := Nat.lt_of_lt_of_le (Hd.out.sv_lt dp1 (by omega) (1200 + dp1).toNat (by omega)) (p10_mono (by omega))
            have h16 := dp_of hN3 dp3 (by omega) (s3_lt hL3 hlt)
            have hr := rint_any w3 b t d3 n3 dp3 ng tr3 hb3 hN3 (by omega) (by omega)
            have bM := rint_le tr3 hN3 h16
            have hQ : (X ≤ 1022 ∧ ¬ bigS S0) ∨ (X = 1023 ∧ (rint d3 n3 tr3 dp3 = 9007199254740992 ↔ bigS S0)) := by
              rcases HH.out with h | ⟨h1, h2, h3, h4⟩ | h
              · exact Or.inl h
              · subst h2
                exact Or.inr ⟨h1, (edge hN3 (by omega) hL3 hlt h3).trans h4.symm⟩
              · omega
            obtain ⟨M, hM⟩ : ∃ M, M = rint d3 n3 tr3 dp3 := ⟨_, rfl⟩
            rw [← hM] at hr bM hQ
            have HQ := Lib.hid hQ
            have HD3 := Lib.hid hD3
            clear hM hQ hc hL3 hN3 hlt h16 hD3 i0 i0' h23 HH Hd hs hb1 HD hb2 HD2 r1 r2 hdp hdp' gX hX
            go_upto_region 33 with (go_at_call 113; refine hr.mono ?_; rintro e w' ⟨rfl, rfl⟩)
            obtain ⟨W3, hW3⟩ : ∃ W3, W3 = wD w3 b t d3 n3 dp3 ng tr3 := ⟨_, rfl⟩
            have F : FbAt W3 b n3 dp3 ng := by rw [hW3]; exact FbAt.of HD3.out hb hs3 hb4 Hi.out
            obtain ⟨f1, f2, f3, i0, i1, i2⟩ := F
            rw [← hW3]
            have HW3 := Lib.hid hW3
            clear hW3
            clear hr
            obtain ⟨A, hA⟩ : ∃ A, A = ((M : Int) == 9007199254740992) := ⟨_, rfl⟩
            go_cut [155] (fun v wx => v = .bool A ∧ wx = W3)
            case first =>
              as_aux_lemma =>
                go_wp2_with fail
                go_meet
                exact ⟨by rw [hA], rfl⟩
            case rest =>
              obtain ⟨rfl, hwc⟩ := hcut
              rw [hwc]
              clear hwc
              go_upto_if 155 with fail
              go_cut [6, 7] (fun s6 s7 wx => ∃ (M' : Nat) (X' : Int), s6 = .int .i64 X' ∧ s7 = .int .u64 M' ∧ M' ≤ 10000000000000000 ∧ -1022 ≤ X' ∧ X' ≤ 1023 ∧ Hid (¬ bigS S0) ∧ ∃ q, wx = W3.drewN q)
              case first =>
                by_cases h53 : M = 9007199254740992
                · have hA' : A = true := by rw [hA, beq_iff_eq]; omega
                  subst hA'
                  clear hA
                  by_cases hX3 : X = 1023
                  · as_aux_lemma =>
                      have hbig : bigS S0 := by
                        rcases HQ.out with h | h
                        · omega
                        · exact h.2.1 h53
                      have Hbig := Lib.hid hbig
                      have h1 := H1.out
                      subst hX3 h53
                      clear hbig H0
                      go_wp2_with fail
                      go_quiet (fail)
                      go_wp2_with fail
                      refine wp_goto (h1 _ _ ?_)
                      go_wp2_with fail
                      go_quiet (fail)
                      go_wp2_with fail
                      go_step3
                      have q1 := ov_and0
                      have q2 := ov_and1
                      have q3 := ov_or0
                      have q4 := ov_or1
                      go_wp2_with fail
                      go_quiet (fail)
                      cases ng
                      · go_wp2_with fail
                        rw [Exit.noGoto_ret]
                        go_ret2
                        exact FBPost.of HW3.out HD3.out hs3 (by first | exact (Dr.rfl' _).more _ | exact ((Dr.rfl' _).more _).more _ | exact (((Dr.rfl' _).more _).more _).more _) (B := 9218868437227405312) (ov := true) rfl (by decide) (by decide) ⟨fun _ => Hbig.out, fun _ => rfl⟩
                      · go_wp2_with fail
                        go_quiet (fail)
                        go_wp2_with fail
                        rw [Exit.noGoto_ret]
                        go_ret2
                        exact FBPost.of HW3.out HD3.out hs3 (by first | exact (Dr.rfl' _).more _ | exact ((Dr.rfl' _).more _).more _ | exact (((Dr.rfl' _).more _).more _).more _) (B := 18442240474082181120) (ov := true) rfl (by decide) (by decide) ⟨fun _ => Hbig.out, fun _ => rfl⟩
                  · as_aux_lemma =>
                      have hn : ¬ bigS S0 ∧ X ≤ 1022 := by
                        rcases HQ.out with h | h
                        · exact ⟨h.2, h.1⟩
                        · omega
                      have Hn := Lib.hid hn.1
                      have hX4 := hn.2
                      clear hn
                      have gX : decide ((2047 : Int) ≤ X + 1 + 1023) = false := by simp; omega
                      subst h53
                      go_wp2_with fail
                      go_quiet (fail)
                      go_wp2_with fail
                      go_meet
                      exact ⟨4503599627370496, X + 1, rfl, rfl, by decide, by omega, by omega, Hn, _, rfl⟩
                · as_aux_lemma =>
                    have hA' : A = false := by rw [hA, beq_eq_false_iff_ne]; omega
                    subst hA'
                    have hn : ¬ bigS S0 ∧ X ≤ 1023 := by
                      rcases HQ.out with h | h
                      · exact ⟨h.2, by omega⟩
                      · exact ⟨fun hb => h53 (h.2.2 hb), by omega⟩
                    have Hn := Lib.hid hn.1
                    have hX4 := hn.2
                    clear hn hA h53
                    go_wp2_with fail
                    go_meet
                    exact ⟨M, X, rfl, rfl, bM, bX1, hX4, Hn, 0, rfl⟩
              case rest =>
                clear HQ hA bM bX1 bX2
                obtain ⟨M', X', rfl, rfl, bM, bX1, bX2, Hn, q0, rfl⟩ := hcut
                obtain ⟨G, hG⟩ := and52 M' (by omega)
                have h0 := H0.out
                clear H1 H0
                by_cases hG : G = 0
                · as_aux_lemma =>
                    have gG : ((G : Int) == 0) = true := by rw [beq_iff_eq]; omega
                    obtain ⟨F, B, bB, bF, a1, a2, a3, a4, n1, n2⟩ := outFacts M' 0 (by omega) (by omega)
                    rw [show ((0 : Nat) : Int) = 0 from rfl] at a2 a3
                    rw [Int.zero_mul] at a3
                    clear hG
                    go_wp2_with fail
                    refine wp_goto (h0 _ _ ?_)
                    have Hn1 := Lib.hid n1
                    have Hn2 := Lib.hid n2
                    clear n1 n2
                    go_wp2_with fail
                    go_quiet (fail)
                    cases ng
                    · go_wp2_with fail
                      rw [Exit.noGoto_ret]
                      go_ret2
                      exact FBPost.of HW3.out HD3.out hs3 (by first | exact (Dr.rfl' _).more _ | exact ((Dr.rfl' _).more _).more _ | exact (((Dr.rfl' _).more _).more _).more _) (B := B) (ov := false) rfl Hn1.out (by omega) ⟨fun h => (by cases h), fun h => (Hn.out h).elim⟩
                    · go_wp2_with fail
                      go_quiet (fail)
                      go_wp2_with fail
                      rw [Exit.noGoto_ret]
                      go_ret2
                      exact FBPost.of HW3.out HD3.out hs3 (by first | exact (Dr.rfl' _).more _ | exact ((Dr.rfl' _).more _).more _ | exact (((Dr.rfl' _).more _).more _).more _) (B := 9223372036854775808 + B) (ov := false) rfl Hn2.out (by omega) ⟨fun h => (by cases h), fun h => (Hn.out h).elim⟩
                · as_aux_lemma =>
                    have gG : ((G : Int) == 0) = false := by rw [beq_eq_false_iff_ne]; omega
                    obtain ⟨E, hE⟩ : ∃ E : Nat, (E : Int) = X' + 1023 := ⟨(X' + 1023).toNat, by omega⟩
                    have eX : X' + 1023 = (E : Int) := hE.symm
                    have bE : E ≤ 2046 := by omega
                    obtain ⟨F, B, bB, bF, a1, a2, a3, a4, n1, n2⟩ := outFacts M' E (by omega) bE
                    clear hG hE
                    go_wp2_with fail
                    refine wp_goto (h0 _ _ ?_)
                    have Hn1 := Lib.hid n1
                    have Hn2 := Lib.hid n2
                    clear n1 n2
                    go_wp2_with fail
                    go_quiet (fail)
                    cases ng
                    · go_wp2_with fail
                      rw [Exit.noGoto_ret]
                      go_ret2
                      exact FBPost.of HW3.out HD3.out hs3 (by first | exact (Dr.rfl' _).more _ | exact ((Dr.rfl' _).more _).more _ | exact (((Dr.rfl' _).more _).more _).more _) (B := B) (ov := false) rfl Hn1.out (by omega) ⟨fun h => (by cases h), fun h => (Hn.out h).elim⟩
                    · go_wp2_with fail
                      go_quiet (fail)
                      go_wp2_with fail
                      rw [Exit.noGoto_ret]
                      go_ret2
                      exact FBPost.of HW3.out HD3.out hs3 (by first | exact (Dr.rfl' _).more _ | exact ((Dr.rfl' _).more _).more _ | exact (((Dr.rfl' _).more _).more _).more _) (B := 9223372036854775808 + B) (ov := false) rfl Hn2.out (by omega) ⟨fun h => (by cases h), fun h => (Hn.out h).elim⟩
end Go.Proofs.YtdfbokmjipdolaaGreatDoor
