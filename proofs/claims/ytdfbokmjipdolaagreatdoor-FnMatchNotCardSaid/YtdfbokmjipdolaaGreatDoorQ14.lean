/- Texts of the proof, joined: C6, C9, C10, C11, C12, C13, C14. -/
import Derived.Test.YtdfbokmjipdolaaGreatDoorQ5
import Derived.Test.YtdfbokmjipdolaaGreatDoorC8
import Derived.Test.YtdfbokmjipdolaaGreatDoorQ3
import Derived.WalkMore
set_option linter.unusedVariables false
set_option linter.unusedSimpArgs false
/- leftShift of Go's own decimal. -/
namespace Go.Proofs.YtdfbokmjipdolaaGreatDoor
open Go.RowKit

/-- Go's table of left shifts lies in the world, off block b -/
def LcAt (w : World) (b : Nat) : Prop := b ≠ 16 ∧ ∃ tb ofs : Nat, tb ≠ b ∧ w.cell? ⟨16, 0, none⟩ = some (.slice (some ⟨tb, ofs, none⟩) 61 61) ∧
  ∀ k, 1 ≤ k → k ≤ 60 → ∃ (dl : Nat) (s : ByteArray), w.cell? ⟨tb, ofs + k * 2, none⟩ = some (.int .i64 dl) ∧ w.cell? ⟨tb, ofs + k * 2 + 1, none⟩ = some (.string s) ∧ LcOk k dl (bsN s) ∧ s.size ≤ 60

theorem slice_digits (b n : Nat) (h : n ≤ 800) (wx : World) : Sem.run Tryz.prog (Instr.sliceAt 135 (.pointer (some ⟨b, 0, none⟩)) (some (.int .i64 0)) (some (.int .i64 n)) none) wx = .ok (.slice (some ⟨b, 0, none⟩) n 800) wx := by
  have hl : Tryz.prog.arrayLen 135 = 800 := by kernel_rfl
  rw [run_sliceAt_array_lh wx 135 _ (by kernel_rfl) .i64 .i64 0 n (by omega) (by omega) (by rw [hl]; omega), hl]
  have hz : (sizeOf (Tryz.prog.elem 135)).run Tryz.prog wx = .ok 1 wx := by kernel_rfl
  rw [hz]
  simp [slicedAt, Addr.add, Result.andThen]

def LeftPost (w : World) (b : Nat) (t : TypeId) (d : Array Nat) (n : Nat) (dp : Int) (ng : Bool) (k : Nat) (e : Ending) (w' : World) : Prop :=
  e = .returned (.tuple #[]) ∧ ∃ (w1 : World) (d' : Array Nat) (n' : Nat) (dp' : Int) (tr' : Bool), Dr w w1 ∧ w' = wD w1 b t d' n' dp' ng tr' ∧ DN d' n' ∧ LS (sv d n dp) k (sv d' n' dp') dp' ∧ dp ≤ dp' ∧ dp' ≤ dp + 61

set_option maxRecDepth 100000 in
set_option maxHeartbeats 4000000 in
theorem left_any (w : World) (b : Nat) (t : TypeId) (d : Array Nat) (n : Nat) (dp : Int) (ng tr : Bool) (k : Nat) (hb : b < w.heap.size) (hd : DN d n) (hk : 1 ≤ k) (hk' : k ≤ 60) (hdp : -390 ≤ dp) (hdp' : dp ≤ 1000) (hlc : LcAt w b) :
    Calls Tryz.prog 124 #[.pointer (some ⟨b, 0, none⟩), .int .u64 k] (wD w b t d n dp ng tr) (LeftPost w b t d n dp ng k) := by
  obtain ⟨n16, tb, ofs, hne, c16, hT⟩ := hlc
  obtain ⟨dl, s, ca, cb, hok, hsz⟩ := hT k hk hk'
  clear hT
  obtain ⟨h2, h2', hlo, hhi⟩ := lsM_ok hd hok hk
  have hlen := hok.len
  rw [bsN_len] at hlen
  obtain ⟨m, hm⟩ : ∃ m, m = lsM d n dl (bsN s) := ⟨_, rfl⟩
  rw [← hm] at h2 h2' hlo hhi
  have Hm := Lib.hid hm
  have Hlo := Lib.hid hlo
  have Hhi := Lib.hid hhi
  have Hd := Lib.hid hd
  have hs := hd.size
  have hn0 := hd.n0
  have hn8 := hd.n8
  have Hok := Lib.hid hok
  clear hm hlo hhi hd hok
  obtain ⟨W, hW⟩ : ∃ W, W = wD w b t d n dp ng tr := ⟨_, rfl⟩
  have c16' : W.cell? ⟨16, 0, none⟩ = some (.slice (some ⟨tb, ofs, none⟩) 61 61) := by rw [hW, cell_ne (by exact Ne.symm n16)]; exact c16
  have ca' : W.cell? ⟨tb, ofs + k * 2, none⟩ = some (.int .i64 dl) := by rw [hW, cell_ne (by exact hne)]; exact ca
  have cb' : W.cell? ⟨tb, ofs + k * 2 + 1, none⟩ = some (.string s) := by rw [hW, cell_ne (by exact hne)]; exact cb
  have c8 : W.cell? ⟨b, 800, none⟩ = some (.int .i64 n) := by rw [hW]; exact cell_nd hb hs
  clear c16 ca cb
  rw [← hW]
  have HW := Lib.hid hW
  clear hW
  obtain ⟨P, hP⟩ : ∃ P, P = pfx d n (bsN s) 0 := ⟨_, rfl⟩
  have HP := Lib.hid hP
  have hcall : ∀ q, Calls Tryz.prog 132 #[.slice (some ⟨b, 0, none⟩) n 800, .string s] (W.drewN q) fun e w' => e = .returned (.bool P) ∧ ∃ m, w' = W.drewN m := by
    intro q
    rw [HW.out, wD_drewN, hP]
    refine (pfx_any (w.drewN q) b t d n 800 n dp ng tr s hb hs hn8 (by omega)).mono ?_
    rintro e w' ⟨he, w1, ⟨q', rfl⟩, rfl⟩
    exact ⟨he, q + q', by rw [World.drewN_drewN]; rfl⟩
  clear hP
  have hsl := slice_digits b n hn8
  go_enter Tryz.func124, Tryz.ntmps124
  go_upto_region 1 with fail
  go_cut [30] (fun s30 wx => s30 = .bool P ∧ ∃ q, wx = W.drewN q)
  case first =>
    go_quiet ((go_at_call 132; exact hcall _))
    go_wp2_with fail
    go_meet
    exact ⟨rfl, _, rfl⟩
  case rest =>
  obtain ⟨rfl, nq, rfl⟩ := hcut
  clear hcall
  go_upto_if 30 with fail
  go_cut [4] (fun s4 wx => s4 = .int .i64 ((m - n : Nat) : Int) ∧ wx = W.drewN nq)
  case first =>
    have hm := Hm.out
    unfold lsM at hm
    rw [← HP.out] at hm
    have d1 := (Hok.out.more hk).1
    cases P
    · rw [if_neg (by decide)] at hm
      go_wp2_with fail
      go_meet
      exact ⟨vi (by omega), rfl⟩
    · rw [if_pos rfl] at hm
      go_wp2_with fail
      go_meet
      exact ⟨vi (by omega), rfl⟩
  case rest =>
    obtain ⟨rfl, rfl⟩ := hcut
    rw [HW.out, wD_drewN]
    clear c16' ca' cb' c8
    obtain ⟨w1, hw1⟩ : ∃ w1, w1 = w.drewN nq := ⟨_, rfl⟩
    rw [← hw1]
    have hb1 : b < w1.heap.size := by rw [hw1]; exact hb
    have hD : Dr w w1 := ⟨_, hw1⟩
    clear hw1
    have HD := Lib.hid hD
    clear hD
    obtain ⟨δ, hδ⟩ : ∃ δ : Nat, m = n + δ := ⟨m - n, by omega⟩
    obtain rfl := hδ
    rw [show n + δ - n = δ by omega]
    have bδ : δ ≤ 61 := by omega
    go_upto_block 0 with fail
    go_cut [6, 7] (fun s6 s7 wx => ∃ (c : Nat) (D : Array Nat) (tr1 : Bool), s6 = .int .i64 δ ∧ s7 = .int .u64 c ∧ Hid (LP d n k (n + δ) n c D) ∧ wx = wD w1 b t D n dp ng tr1)
    case first =>
      go_wp2_with fail
      go_loopg [5, 6, 7] n (fun g s5 s6 s7 wx => ∃ (p c : Nat) (D : Array Nat) (tr1 : Bool), g = n - p ∧ s5 = .int .i64 ((n : Int) - 1 - p) ∧ s6 = .int .i64 ((n + δ : Int) - p) ∧ s7 = .int .u64 c ∧ p ≤ n ∧ Hid (LP d n k (n + δ) p c D) ∧ wx = wD w1 b t D n dp ng tr1)
      case atStart => exact ⟨0, 0, d, tr, rfl, vi (by omega), vi (by omega), rfl, Nat.zero_le _, Lib.hid (LP.start d n k _ hs), rfl⟩
      case round =>
        obtain ⟨p, c, D, tr1, hg, rfl, rfl, rfl, hp, HL, rfl⟩ := hrel
        have Hg := Lib.hid hg
        clear hg
        have hDs := HL.out.size
        have hc := HL.out.c_lt
        have hc60 : c < 1152921504606846976 := Nat.lt_of_lt_of_le hc (Nat.pow_le_pow_right (n := 2) (by decide) hk')
        clear hc
        by_cases hpn : p < n
        · obtain ⟨R, hR⟩ : ∃ R, R = n - 1 - p := ⟨_, rfl⟩
          have eR : (n : Int) - 1 - p = R := by omega
          rw [eR]
          obtain ⟨v, hv⟩ : ∃ v, v = D.getD R 0 := ⟨_, rfl⟩
          have hv1 : v = d.getD (n - 1 - p) 0 := by rw [hv, hR]; exact HL.out.keep _ (by omega)
          have hvd := Hd.out.dig (n - 1 - p) (by omega)
          rw [← hv1] at hvd
          have hx : v - 48 = dv d n / 10 ^ p % 10 := by rw [dv_digit d n p hpn Hd.out.dig, ← hv1]
          have HX := Lib.hid hx
          clear hv1 hx
          have hcv : (wD w1 b t D n dp ng tr1).cell? ⟨b, R, none⟩ = some (.int .u8 v) := by rw [hv]; exact cell_lo hb1 hDs (by omega)
          clear hv
          have hRn : R < 800 := by omega
          have HR := Lib.hid hR
          clear hR
          obtain ⟨Wi, hWi⟩ : ∃ Wi, Wi = n + δ - 1 - p := ⟨_, rfl⟩
          have eW : (n + δ : Int) - p - 1 = Wi := by omega
          have HWi := Lib.hid hWi
          clear hWi
          obtain ⟨T, hT⟩ : ∃ T, T = (v - 48) * 2 ^ k := ⟨_, rfl⟩
          have eT : ((v : Int) - 48) * 2 ^ k = T := by
            rw [hT]
            push_cast [show 48 ≤ v from hvd.1]
            rfl
          have bT : T ≤ 10376293541461622784 := by
            rw [hT]
            exact Nat.mul_le_mul (show v - 48 ≤ 9 by omega) (Nat.pow_le_pow_right (n := 2) (by decide) hk')
          have HT := Lib.hid hT
          clear hT
          by_cases hw8 : Wi < 800
          · obtain ⟨v2, hcw⟩ : ∃ v2 : Nat, (wD w1 b t D n dp ng tr1).cell? ⟨b, Wi, none⟩ = some (.int .u8 v2) := ⟨_, cell_lo hb1 hDs hw8⟩
            go_wp2_with fail
            go_roundg (n - (p + 1))
            case measure => have := Hg.out; omega
            case rel =>
              have e1 := HR.out
              have e2 := HWi.out
              refine ⟨p + 1, (c + T) / 10, D.setIfInBounds Wi ((c + T) % 10 + 48), tr1, rfl, vi (by omega), vi (by omega), vi (by omega), by omega, Lib.hid ?_, ?_⟩
              · rw [HT.out]
                exact HL.out.next (by omega) h2 HX.out (Or.inl ⟨by omega, by rw [e2]⟩)
              · rw [show (c : Int) + T - 10 * (((c : Int) + T) / 10) + 48 = (((c + T) % 10 + 48 : Nat) : Int) by omega]
                exact put_lo hDs hw8
          · have hD' : LP d n k (n + δ) (p + 1) ((c + T) / 10) D := by
              have e2 := HWi.out
              rw [HT.out]
              exact HL.out.next (by omega) h2 HX.out (Or.inr ⟨by omega, rfl⟩)
            have HD' := Lib.hid hD'
            clear hD'
            by_cases hz : (c + T) % 10 = 0
            · have hz' : ((c : Int) + T - 10 * (((c : Int) + T) / 10) != 0) = false := by simp; omega
              have Hz := Lib.hid hz
              clear hz
              go_wp2_with fail
              go_roundg (n - (p + 1))
              case measure => have := Hg.out; omega
              case rel =>
                have e1 := HR.out
                have e2 := HWi.out
                exact ⟨p + 1, (c + T) / 10, D, tr1, rfl, vi (by omega), vi (by omega), vi (by omega), by omega, HD', rfl⟩
            · have hz' : ((c : Int) + T - 10 * (((c : Int) + T) / 10) != 0) = true := by rw [bne_iff_ne]; omega
              have Hz := Lib.hid hz
              clear hz
              go_wp2_with fail
              go_roundg (n - (p + 1))
              case measure => have := Hg.out; omega
              case rel =>
                have e1 := HR.out
                have e2 := HWi.out
                exact ⟨p + 1, (c + T) / 10, D, true, rfl, vi (by omega), vi (by omega), vi (by omega), by omega, HD', rfl⟩
        · have hpn' : p = n := by omega
          subst hpn'
          go_wp2_with fail
          go_meet
          exact ⟨c, D, tr1, vi (by omega), rfl, HL, rfl⟩
    case rest =>
      obtain ⟨c, D, tr1, rfl, rfl, HL, rfl⟩ := hcut
      have hDs := HL.out.size
      go_upto_block 2 with fail
      go_cut [] (fun wx => ∃ (p : Nat) (D : Array Nat) (tr1 : Bool), n ≤ p ∧ Hid (LP d n k (n + δ) p 0 D) ∧ wx = wD w1 b t D n dp ng tr1)
      case first =>
        go_wp2_with fail
        go_loopg [6, 7] δ (fun g s6 s7 wx => ∃ (p c : Nat) (D : Array Nat) (tr1 : Bool), g = n + δ - p ∧ s6 = .int .i64 ((n + δ : Int) - p) ∧ s7 = .int .u64 c ∧ n ≤ p ∧ p ≤ n + δ ∧ Hid (LP d n k (n + δ) p c D) ∧ wx = wD w1 b t D n dp ng tr1)
        case atStart => exact ⟨n, c, D, tr1, by omega, vi (by omega), rfl, Nat.le_refl _, h2, HL, rfl⟩
        case round =>
          clear HL hDs
          obtain ⟨p, c, D, tr1, hg, rfl, rfl, hp, hp', HL, rfl⟩ := hrel
          have Hg := Lib.hid hg
          clear hg
          have hDs := HL.out.size
          have hc := HL.out.c_lt
          have hc60 : c < 1152921504606846976 := Nat.lt_of_lt_of_le hc (Nat.pow_le_pow_right (n := 2) (by decide) hk')
          clear hc
          by_cases hc0 : 0 < c
          · have hpm := HL.out.lt_m Hd.out hp hc0 Hhi.out
            have hx0 : 0 = dv d n / 10 ^ p % 10 := by
              rw [Nat.div_eq_of_lt (Nat.lt_of_lt_of_le Hd.out.high (Nat.pow_le_pow_right (by decide) hp))]
            have HX := Lib.hid hx0
            clear hx0
            obtain ⟨Wi, hWi⟩ : ∃ Wi, Wi = n + δ - 1 - p := ⟨_, rfl⟩
            have eW : (n + δ : Int) - p - 1 = Wi := by omega
            have HWi := Lib.hid hWi
            clear hWi
            have hw8 : Wi < 800 := by have := HWi.out; omega
            · obtain ⟨v2, hcw⟩ : ∃ v2 : Nat, (wD w1 b t D n dp ng tr1).cell? ⟨b, Wi, none⟩ = some (.int .u8 v2) := ⟨_, cell_lo hb1 hDs hw8⟩
              go_wp2_with fail
              go_roundg (n + δ - (p + 1))
              case measure => have := Hg.out; omega
              case rel =>
                have e2 := HWi.out
                refine ⟨p + 1, c / 10, D.setIfInBounds Wi (c % 10 + 48), tr1, rfl, vi (by omega), vi (by omega), by omega, by omega, Lib.hid ?_, ?_⟩
                · have := HL.out.next (D' := D.setIfInBounds Wi (c % 10 + 48)) hpm h2 HX.out (Or.inl ⟨by omega, by rw [← e2, Nat.zero_mul]; rfl⟩)
                  rw [Nat.zero_mul, Nat.add_zero] at this
                  exact this
                · rw [show (c : Int) - 10 * ((c : Int) / 10) + 48 = ((c % 10 + 48 : Nat) : Int) by omega]
                  exact put_lo hDs hw8
          · have hc0' : c = 0 := by omega
            subst hc0'
            go_wp2_with fail
            go_meet
            exact ⟨p, D, tr1, hp, HL, rfl⟩
      case rest =>
        clear HL hDs
        obtain ⟨p, D, tr1, hp, HL, rfl⟩ := hcut
        have hDs := HL.out.size
        obtain ⟨M8, hM8⟩ : ∃ M8, M8 = min (n + δ) 800 := ⟨_, rfl⟩
        have hM0 : 0 < M8 := by omega
        have hM1 : M8 ≤ 800 := by omega
        have hfin : ∀ w' e, TrimPost w1 b t D M8 (dp + δ) ng tr1 e w' → LeftPost w b t d n dp ng k e w' := by
          rintro w' e ⟨he, w2, n', h12, hn', hv, hw'⟩
          obtain ⟨q1, q2, q3⟩ := HL.out.done Hd.out hp rfl Hlo.out Hhi.out h2
          rw [← hM8] at q2 q3
          have hn1 : 0 < n' := by
            refine Nat.pos_of_ne_zero fun h0 => ?_
            subst h0
            have := q2.low
            rw [hv, dv, Nat.zero_mul] at this
            have := Nat.pow_pos (n := M8 - 1) (show 0 < 10 by decide)
            omega
          refine ⟨he, w2, D, n', dp + δ, tr1, HD.out.trans h12, by rw [hw', if_neg (by omega)], ⟨hDs, hn1, by omega, fun i hi => q2.dig i (by omega), q2.lead⟩, ?_, by omega, by omega⟩
          have := LS.of (N := n') (m := n + δ) (k := k) (dp := dp) hdp hn8 h2 (by omega) (by rw [← hM8]; exact hv) (by rw [← hM8]; exact q3 M8 (Nat.le_refl _))
          rw [show n + δ - n = δ by omega] at this
          exact this
        have HM8 := Lib.hid hM8
        clear hM8
        have htrim := trim_any w1 b t D M8 (dp + δ) ng tr1 hb1 hDs hM1
        by_cases h8 : 800 ≤ n + δ
        · have e8 : M8 = 800 := by have := HM8.out; omega
          subst e8
          go_wp2_with (go_at_call 133; refine htrim.mono ?_; rintro e w' ⟨rfl, hpost⟩)
          go_end0
          exact hfin _ _ ⟨rfl, hpost⟩
        · have e8 : M8 = n + δ := by have := HM8.out; omega
          subst e8
          have hp2 : ((n + δ : Nat) : Int) = n + δ := by omega
          rw [hp2] at htrim
          go_wp2_with (go_at_call 133; refine htrim.mono ?_; rintro e w' ⟨rfl, hpost⟩)
          go_end0
          exact hfin _ _ ⟨rfl, hpost⟩
end Go.Proofs.YtdfbokmjipdolaaGreatDoor
/- Shift of Go's own decimal. -/
namespace Go.Proofs.YtdfbokmjipdolaaGreatDoor
open Go.RowKit

set_option maxRecDepth 100000 in
set_option maxHeartbeats 4000000 in
theorem shiftL_any (w : World) (b : Nat) (t : TypeId) (d : Array Nat) (n : Nat) (dp : Int) (ng tr : Bool) (k : Nat) (hb : b < w.heap.size) (hd : DN d n) (hk : 1 ≤ k) (hk' : k ≤ 60) (hdp : -390 ≤ dp) (hdp' : dp ≤ 1000) (hlc : LcAt w b) :
    Calls Tryz.prog 112 #[.pointer (some ⟨b, 0, none⟩), .int .i64 k] (wD w b t d n dp ng tr) (LeftPost w b t d n dp ng k) := by
  have hc := left_any w b t d n dp ng tr k hb hd hk hk' hdp hdp' hlc
  have hs := hd.size
  have hn0 := hd.n0
  have hn8 := hd.n8
  clear hd
  have g0 : ((n : Int) == 0) = false := by rw [beq_eq_false_iff_ne]; omega
  go_enter Tryz.func112, Tryz.ntmps112
  go_wp2_with fail
  go_loopg [1] 0 (fun g s1 w1 => s1 = .int .i64 k ∧ w1 = wD w b t d n dp ng tr)
  case atStart => exact ⟨rfl, rfl⟩
  case round =>
    obtain ⟨rfl, rfl⟩ := hrel
    go_wp2_with (go_at_call 124; refine hc.mono ?_; rintro e w' ⟨rfl, hpost⟩)
    go_end0
    exact ⟨rfl, hpost⟩

set_option maxRecDepth 100000 in
set_option maxHeartbeats 4000000 in
theorem shiftR_any (w : World) (b : Nat) (t : TypeId) (d : Array Nat) (n : Nat) (dp : Int) (ng tr : Bool) (k : Nat) (hb : b < w.heap.size) (hd : DN d n) (hk : 1 ≤ k) (hk' : k ≤ 60) (hdp : -370 ≤ dp) (hdp' : dp ≤ 1000) :
    Calls Tryz.prog 112 #[.pointer (some ⟨b, 0, none⟩), .int .i64 (-(k : Int))] (wD w b t d n dp ng tr) (RightPost w b t d n dp ng k) := by
  have hc := right_any w b t d n dp ng tr k hb hd hk hk' hdp hdp'
  have hs := hd.size
  have hn0 := hd.n0
  have hn8 := hd.n8
  clear hd
  have g0 : ((n : Int) == 0) = false := by rw [beq_eq_false_iff_ne]; omega
  obtain ⟨K, hK⟩ : ∃ K : Int, K = -(k : Int) := ⟨_, rfl⟩
  rw [← hK]
  have hK1 : K ≤ -1 := by omega
  have hK2 : -60 ≤ K := by omega
  have eK : -K = (k : Int) := by omega
  clear hK
  go_enter Tryz.func112, Tryz.ntmps112
  go_wp2_with fail
  go_loopg [1] 0 (fun g s1 w1 => s1 = .int .i64 K ∧ w1 = wD w b t d n dp ng tr)
  case atStart => exact ⟨rfl, rfl⟩
  case round =>
    obtain ⟨rfl, rfl⟩ := hrel
    go_wp2_with (go_at_call 125; refine hc.mono ?_; rintro e w' ⟨rfl, hpost⟩)
    go_end0
    exact ⟨rfl, hpost⟩

def FarPost (w : World) (b : Nat) (t : TypeId) (dp : Int) (ng : Bool) (e : Ending) (w' : World) : Prop :=
  e = .returned (.tuple #[]) ∧ ∃ (w1 : World) (d' : Array Nat) (n' : Nat) (dp' : Int) (tr' : Bool), Dr w w1 ∧ w' = wD w1 b t d' n' dp' ng tr' ∧ DN d' n' ∧ dp - 120 ≤ dp' ∧ dp' ≤ dp
set_option maxRecDepth 100000 in
set_option maxHeartbeats 4000000 in
theorem shiftFar_any (w : World) (b : Nat) (t : TypeId) (d : Array Nat) (n : Nat) (dp : Int) (ng tr : Bool) (k : Nat) (hb : b < w.heap.size) (hd : DN d n) (hk : 1 ≤ k) (hk' : k ≤ 240) (hdp : -200 ≤ dp) (hdp' : dp ≤ 1000) :
    Calls Tryz.prog 112 #[.pointer (some ⟨b, 0, none⟩), .int .i64 (-(k : Int))] (wD w b t d n dp ng tr) (FarPost w b t dp ng) := by
  have hs := hd.size
  have hn0 := hd.n0
  have hn8 := hd.n8
  have Hd := Lib.hid hd
  clear hd
  have g0 : ((n : Int) == 0) = false := by rw [beq_eq_false_iff_ne]; omega
  obtain ⟨K, hK⟩ : ∃ K : Int, K = -(k : Int) := ⟨_, rfl⟩
  rw [← hK]
  have hK1 : K ≤ -1 := by omega
  have HK := Lib.hid hK
  clear hK
  have gK : decide (K < 0) = true := by simp; omega
  have gK2 : decide (0 < K) = false := by simp; omega
  go_enter Tryz.func112, Tryz.ntmps112
  go_wp2_with fail
  go_loopg [1] 5 (fun g s1 wx => ∃ (j : Nat) (K2 : Int) (w1 : World) (d' : Array Nat) (n' : Nat) (dp' : Int) (tr' : Bool), g = 5 - j ∧ j ≤ 5 ∧ s1 = .int .i64 K2 ∧ K2 ≤ -1 ∧ -300 + 60 * (j : Int) ≤ K2 ∧ Dr w w1 ∧ wx = wD w1 b t d' n' dp' ng tr' ∧ Hid (DN d' n') ∧ dp - 19 * (j : Int) ≤ dp' ∧ dp' ≤ dp)
  case atStart => exact ⟨0, K, w, d, n, dp, tr, rfl, by omega, rfl, hK1, by have := HK.out; omega, Dr.rfl' w, rfl, Hd, by omega, by omega⟩
  case round =>
    obtain ⟨j, K2, w1, d', n', dp', tr', hg, hj, rfl, k1, k2, hD, rfl, HN, p1, p2⟩ := hrel
    have Hg := Lib.hid hg
    clear hg
    have hs' := HN.out.size
    have hb1 : b < w1.heap.size := by rw [hD.size]; exact hb
    have HD := Lib.hid hD
    clear hD
    by_cases hfar : K2 < -60
    · have hc := right_any w1 b t d' n' dp' ng tr' 60 hb1 HN.out (by decide) (by decide) (by omega) (by omega)
      go_wp2_with (go_at_call 125; refine hc.mono ?_; rintro e w' ⟨rfl, w3, d3, n3, dp3, tr3, h13, rfl, hN3, _, q1, q2⟩)
      go_roundg (5 - (j + 1))
      case measure => have := Hg.out; omega
      case rel => exact ⟨j + 1, K2 + 60, w3, d3, n3, dp3, tr3, rfl, by omega, vi (by omega), by omega, by omega, HD.out.trans h13, rfl, Lib.hid hN3, by omega, by omega⟩
    · obtain ⟨k3, hk3⟩ : ∃ k3 : Nat, (k3 : Int) = -K2 := ⟨(-K2).toNat, by omega⟩
      have eK : -K2 = (k3 : Int) := hk3.symm
      have bk3 : 1 ≤ k3 ∧ k3 ≤ 60 := by omega
      clear hk3
      have hc := right_any w1 b t d' n' dp' ng tr' k3 hb1 HN.out bk3.1 bk3.2 (by omega) (by omega)
      go_wp2_with (go_at_call 125; refine hc.mono ?_; rintro e w' ⟨rfl, w3, d3, n3, dp3, tr3, h13, rfl, hN3, _, q1, q2⟩)
      go_end0
      exact ⟨rfl, w3, d3, n3, dp3, tr3, HD.out.trans h13, rfl, hN3, by omega, by omega⟩
end Go.Proofs.YtdfbokmjipdolaaGreatDoor
/- shouldRoundUp and RoundedInteger of Go's own decimal. -/
namespace Go.Proofs.YtdfbokmjipdolaaGreatDoor
open Go.RowKit

theorem rb {x y : Bool} (h : x = y) : Ending.returned (.bool x) = .returned (.bool y) := by rw [h]
def sru (d : Array Nat) (n : Nat) (tr : Bool) (p : Int) : Bool :=
  if p < 0 ∨ (n : Int) ≤ p then false
  else if d.getD p.toNat 0 = 53 ∧ p + 1 = n then tr || (decide (0 < p) && decide ((d.getD (p.toNat - 1) 0 - 48) % 2 ≠ 0))
  else decide (53 ≤ d.getD p.toNat 0)

set_option maxRecDepth 100000 in
set_option maxHeartbeats 4000000 in
theorem sru_any (w : World) (b : Nat) (t : TypeId) (d : Array Nat) (n : Nat) (dp : Int) (ng tr : Bool) (p : Int) (hb : b < w.heap.size) (hd : DN d n) (hp1 : -1000 ≤ p) (hp2 : p ≤ 1000) :
    Calls Tryz.prog 126 #[.pointer (some ⟨b, 0, none⟩), .int .i64 p] (wD w b t d n dp ng tr) fun e w' => e = .returned (.bool (sru d n tr p)) ∧ w' = wD w b t d n dp ng tr := by
  have hs := hd.size
  have hn0 := hd.n0
  have hn8 := hd.n8
  have Hd := Lib.hid hd
  clear hd
  by_cases h0 : p < 0
  · have q : decide (p < 0) = true := by simpa using h0
    go_enter Tryz.func126, Tryz.ntmps126
    go_wp2_with fail
    go_ret
    exact ⟨by rw [sru, if_pos (Or.inl h0)]; rfl, rfl⟩
  · by_cases h1 : (n : Int) ≤ p
    · have q : decide (p < 0) = false := by simpa using h0
      have q1 : decide ((n : Int) ≤ p) = true := by simpa using h1
      go_enter Tryz.func126, Tryz.ntmps126
      go_wp2_with fail
      go_ret
      exact ⟨by rw [sru, if_pos (Or.inr h1)]; rfl, rfl⟩
    · obtain ⟨P, rfl⟩ : ∃ P : Nat, p = P := ⟨p.toNat, by omega⟩
      have hP : P < n := by omega
      have hP8 : P < 800 := by omega
      obtain ⟨v, hv⟩ : ∃ v, v = d.getD P 0 := ⟨_, rfl⟩
      have hcv : (wD w b t d n dp ng tr).cell? ⟨b, P, none⟩ = some (.int .u8 v) := by rw [hv]; exact cell_lo hb hs hP8
      have hvd := Hd.out.dig P hP
      rw [← hv] at hvd
      have E : sru d n tr P = if v = 53 ∧ P + 1 = n then tr || (decide (0 < P) && decide ((d.getD (P - 1) 0 - 48) % 2 ≠ 0)) else decide (53 ≤ v) := by
        rw [sru, if_neg (by omega), Int.toNat_natCast, ← hv]
        simp only [Int.natCast_pos]
        congr 1
        simp only [eq_iff_iff]
        omega
      obtain ⟨RB, hRB⟩ : ∃ RB, RB = sru d n tr P := ⟨_, rfl⟩
      rw [← hRB]
      rw [← hRB] at E
      have HE := Lib.hid E
      have g1 : decide ((P : Int) < 0) = false := by simp
      have g2 : decide ((n : Int) ≤ P) = false := by simp; omega
      clear E hv h0 h1 hRB
      by_cases h53 : v = 53 ∧ P + 1 = n
      · have q53 : ((v : Int) == 53) = true := by rw [beq_iff_eq]; omega
        have q : ((P : Int) + 1 == n) = true := by rw [beq_iff_eq]; omega
        have E := HE.out
        rw [if_pos h53] at E
        have HE := Lib.hid E
        clear h53 E
        cases tr
        · by_cases hP0 : P = 0
          · have qz : decide (0 < P) = false := by simpa using hP0
            have qy : (0 < P) = False := by simp [hP0]
            have E := HE.out
            rw [show decide (0 < P) = false by simpa using hP0] at E
            have HE := Lib.hid E
            clear E hP0
            go_enter Tryz.func126, Tryz.ntmps126
            go_wp2_with fail
            go_ret
            exact ⟨rb HE.out.symm, rfl⟩
          · obtain ⟨R, hR⟩ : ∃ R, R = P - 1 := ⟨_, rfl⟩
            have eR : (P : Int) - 1 = R := by omega
            have qz : decide (0 < P) = true := by simp; omega
            have qy : (0 < P) = True := by simp; omega
            obtain ⟨u, hu⟩ : ∃ u, u = d.getD R 0 := ⟨_, rfl⟩
            have hcu : (wD w b t d n dp ng false).cell? ⟨b, R, none⟩ = some (.int .u8 u) := by rw [hu]; exact cell_lo hb hs (by omega)
            have hud := Hd.out.dig R (by omega)
            rw [← hu] at hud
            have E := HE.out
            rw [show decide (0 < P) = true by simp; omega, ← hR, ← hu] at E
            have E2 : (((u : Int) - 48) % 2 != 0) = RB := by
              rw [E, Bool.eq_iff_iff]
              simp
              omega
            have HE := Lib.hid E2
            clear E E2 hu hR hP0
            go_enter Tryz.func126, Tryz.ntmps126
            go_wp2_with fail
            go_ret
            exact ⟨rb HE.out, rfl⟩
        · go_enter Tryz.func126, Tryz.ntmps126
          go_wp2_with fail
          go_ret
          exact ⟨rb HE.out.symm, rfl⟩
      · have E := HE.out
        rw [if_neg h53] at E
        have E2 : decide ((53 : Int) ≤ v) = RB := by rw [E, Bool.eq_iff_iff]; simp; omega
        have HE := Lib.hid E2
        clear E E2
        by_cases hv53 : v = 53
        · have q53 : ((v : Int) == 53) = true := by rw [beq_iff_eq]; omega
          have q : ((P : Int) + 1 == n) = false := by rw [beq_eq_false_iff_ne]; omega
          clear h53 hv53
          go_enter Tryz.func126, Tryz.ntmps126
          go_wp2_with fail
          go_ret
          exact ⟨rb HE.out, rfl⟩
        · have q53 : ((v : Int) == 53) = false := by rw [beq_eq_false_iff_ne]; omega
          clear h53 hv53
          go_enter Tryz.func126, Tryz.ntmps126
          go_wp2_with fail
          go_ret
          exact ⟨rb HE.out, rfl⟩
end Go.Proofs.YtdfbokmjipdolaaGreatDoor
/- RoundedInteger of Go's own decimal. -/
namespace Go.Proofs.YtdfbokmjipdolaaGreatDoor
open Go.RowKit

def rint (d : Array Nat) (n : Nat) (tr : Bool) (dp : Int) : Nat := px d n dp.toNat + if sru d n tr dp then 1 else 0
theorem px_lt {d : Array Nat} {n : Nat} (hd : DN d n) (r : Nat) : px d n r < 10 ^ r := by
  induction r with
  | zero => simp [px]
  | succ r ih => have := dg_le hd r; rw [px, Nat.pow_succ]; omega

set_option maxRecDepth 100000 in
set_option maxHeartbeats 4000000 in
theorem rint_any (w : World) (b : Nat) (t : TypeId) (d : Array Nat) (n : Nat) (dp : Int) (ng tr : Bool) (hb : b < w.heap.size) (hd : DN d n) (hp1 : -1000 ≤ dp) (hp2 : dp ≤ 18) :
    Calls Tryz.prog 113 #[.pointer (some ⟨b, 0, none⟩)] (wD w b t d n dp ng tr) fun e w' => e = .returned (.int .u64 (rint d n tr dp : Nat)) ∧ w' = wD w b t d n dp ng tr := by
  have hs := hd.size
  have hn0 := hd.n0
  have hn8 := hd.n8
  have hc := sru_any w b t d n dp ng tr dp hb hd hp1 (by omega)
  have Hd := Lib.hid hd
  clear hd
  obtain ⟨RB, hRB⟩ : ∃ RB, RB = sru d n tr dp := ⟨_, rfl⟩
  rw [← hRB] at hc
  have HRB := Lib.hid hRB
  clear hRB
  obtain ⟨M, hM⟩ : ∃ M, M = rint d n tr dp := ⟨_, rfl⟩
  rw [← hM]
  have HM := Lib.hid hM
  clear hM
  have hsm : ∀ i : Nat, (i : Int) ≤ dp ∨ i = 0 → px d n i < 1000000000000000000 := by
    intro i hi
    have h1 := px_lt Hd.out i
    have h2 : (10 : Nat) ^ i ≤ 10 ^ 18 := Nat.pow_le_pow_right (by decide) (by omega)
    omega
  have Hsm := Lib.hid hsm
  clear hsm
  go_enter Tryz.func113, Tryz.ntmps113
  go_upto_block 0 with fail
  go_cut [3, 4] (fun s3 s4 wx => ∃ (i P : Nat), ((i : Int) ≤ dp ∨ i = 0) ∧ s3 = .int .i64 i ∧ s4 = .int .u64 P ∧ P < 1000000000000000000 ∧ Hid (P = px d n i) ∧ (dp ≤ i ∨ n ≤ i) ∧ wx = wD w b t d n dp ng tr)
  case first =>
    go_wp2_with fail
    go_loopg [3, 4] (dp.toNat) (fun g s3 s4 wx => ∃ (i P : Nat), g = dp.toNat - i ∧ ((i : Int) ≤ dp ∨ i = 0) ∧ s3 = .int .i64 i ∧ s4 = .int .u64 P ∧ P < 1000000000000000000 ∧ Hid (P = px d n i) ∧ wx = wD w b t d n dp ng tr)
    case atStart => exact ⟨0, 0, by omega, Or.inr rfl, rfl, rfl, by decide, Lib.hid rfl, rfl⟩
    case round =>
      obtain ⟨i, P, hg, hi, rfl, rfl, bP, HP, rfl⟩ := hrel
      have Hg := Lib.hid hg
      clear hg
      by_cases h1 : (i : Int) < dp
      · have q1 : decide ((i : Int) < dp) = true := by simpa using h1
        by_cases h2 : i < n
        · have q2 : decide ((i : Int) < n) = true := by simpa using h2
          obtain ⟨v, hv⟩ : ∃ v, v = d.getD i 0 := ⟨_, rfl⟩
          have hcv : (wD w b t d n dp ng tr).cell? ⟨b, i, none⟩ = some (.int .u8 v) := by rw [hv]; exact cell_lo hb hs (by omega)
          have hvd := Hd.out.dig i h2
          rw [← hv] at hvd
          have Hv := Lib.hid hv
          have HH := Lib.hid hi
          clear hv hi
          go_wp2_with fail
          go_roundg (dp.toNat - (i + 1))
          case measure => have := Hg.out; omega
          case rel =>
            have hnx : P * 10 + (v - 48) = px d n (i + 1) := by rw [px, ← HP.out, dg, if_pos h2, ← Hv.out]
            exact ⟨i + 1, P * 10 + (v - 48), rfl, by omega, vi (by omega), vi (by omega), by rw [hnx]; exact Hsm.out _ (by omega), Lib.hid hnx, rfl⟩
        · have q2 : decide ((i : Int) < n) = false := by simpa using h2
          have HH := Lib.hid hi
          clear hi
          go_wp2_with fail
          go_meet
          exact ⟨i, P, HH.out, rfl, rfl, bP, HP, by omega, rfl⟩
      · have q1 : decide ((i : Int) < dp) = false := by simpa using h1
        have HH := Lib.hid hi
        clear hi
        go_wp2_with fail
        go_meet
        exact ⟨i, P, HH.out, rfl, rfl, bP, HP, by omega, rfl⟩
  case rest =>
    obtain ⟨i0, P0, hi0, rfl, rfl, bP0, HP0, ho, rfl⟩ := hcut
    go_upto_block 2 with fail
    go_cut [4] (fun s4 wx => ∃ (P : Nat), s4 = .int .u64 P ∧ P < 1000000000000000000 ∧ Hid (P = px d n dp.toNat) ∧ wx = wD w b t d n dp ng tr)
    case first =>
      have HH0 := Lib.hid hi0
      have Ho := Lib.hid ho
      clear hi0 ho
      go_wp2_with fail
      go_loopg [3, 4] (dp.toNat - i0) (fun g s3 s4 wx => ∃ (i P : Nat), g = dp.toNat - i ∧ Hid ((i : Int) ≤ dp ∨ i = 0) ∧ s3 = .int .i64 i ∧ s4 = .int .u64 P ∧ P < 1000000000000000000 ∧ Hid (P = px d n i) ∧ Hid (dp ≤ i ∨ n ≤ i) ∧ wx = wD w b t d n dp ng tr)
      case atStart => exact ⟨i0, P0, by omega, HH0, rfl, rfl, bP0, HP0, Ho, rfl⟩
      case round =>
        obtain ⟨i, P, hg, HH, rfl, rfl, bP, HP, HO, rfl⟩ := hrel
        have Hg := Lib.hid hg
        clear hg
        by_cases h1 : (i : Int) < dp
        · have bi : i < 18 := by omega
          go_wp2_with fail
          go_roundg (dp.toNat - (i + 1))
          case measure => have := Hg.out; omega
          case rel =>
            have hni : ¬ i < n := by have := HO.out; omega
            have hnx : P * 10 = px d n (i + 1) := by rw [px, ← HP.out, dg, if_neg hni, Nat.add_zero]
            exact ⟨i + 1, P * 10, rfl, Lib.hid (by omega), vi (by omega), vi (by omega), by rw [hnx]; exact Hsm.out _ (by omega), Lib.hid hnx, Lib.hid (by omega), rfl⟩
        · go_wp2_with fail
          go_meet
          refine ⟨P, rfl, bP, Lib.hid ?_, rfl⟩
          rw [HP.out]
          congr 1
          have := HH.out
          omega
    case rest =>
      clear HP0 bP0 hi0 ho
      obtain ⟨P, rfl, bP, HP, rfl⟩ := hcut
      have hM : M = P + if RB then 1 else 0 := by rw [HM.out, rint, ← HP.out, ← HRB.out]
      have HM := Lib.hid hM
      clear hM
      cases RB
      · go_wp2_with (go_at_call 126; refine hc.mono ?_; rintro e w' ⟨rfl, rfl⟩)
        go_ret
        exact ⟨by rw [HM.out]; rfl, rfl⟩
      · go_wp2_with (go_at_call 126; refine hc.mono ?_; rintro e w' ⟨rfl, rfl⟩)
        go_ret
        exact ⟨by rw [HM.out]; rfl, rfl⟩
end Go.Proofs.YtdfbokmjipdolaaGreatDoor
/- Plain law of floatBits: the two scaling loops keep the question whether the value overflows, and the rounding answers it. -/
namespace Go.Proofs.YtdfbokmjipdolaaGreatDoor
open Go.RowKit

theorem p10_add (a b : Nat) : p10 (a + b) = p10 a * p10 b := Nat.pow_add 10 a b
theorem p10_of (a b : Nat) (h : a = b) : 10 ^ a = p10 b := by rw [h]; rfl
theorem p10_pos (a : Nat) : 0 < p10 a := Nat.pow_pos (by decide)
theorem p10_lt {a b : Nat} (h : p10 a < p10 b) : a < b := (Nat.pow_lt_pow_iff_right (a := 10) (by decide)).1 h
theorem p2_lt {a b : Nat} (h : p2 a < p2 b) : a < b := (Nat.pow_lt_pow_iff_right (a := 2) (by decide)).1 h
theorem p2_add (a b : Nat) : p2 (a + b) = p2 a * p2 b := Nat.pow_add 2 a b
theorem p2_of (a : Nat) : 2 ^ a = p2 a := rfl
theorem p10_def (a : Nat) : p10 a = 10 ^ a := rfl
theorem p2_mono {a b : Nat} (h : a ≤ b) : p2 a ≤ p2 b := Nat.pow_le_pow_right (by decide) h
theorem p2_0 : p2 0 = 1 := rfl
theorem p2_1 : p2 1 = 2 := rfl
theorem p2_54 : p2 54 = 18014398509481984 := rfl
theorem p10_1 : p10 1 = 10 := rfl

theorem thr_dec : thr = 18014398509481983 * p2 970 := by decide +kernel
theorem ten490 : p10 490 = p2 490 * 5 ^ 490 := by decide +kernel
theorem p310 : p10 310 ≤ p2 1030 := by decide +kernel
theorem p331 : p10 331 ≤ p2 1100 := by decide +kernel
theorem RSh.le2 {S k S' : Nat} {dp' : Int} (h : RSh S k S' dp') : S' * p2 k ≤ S := h.le
theorem RSh.grid2 {S k S' : Nat} {dp' : Int} (h : RSh S k S' dp') (u x : Nat) (hu : 400 + dp' ≤ u) (hx : p10 u * x * p2 k ≤ S) : p10 u * x ≤ S' := h.grid u x hu hx
theorem LS.le2 {S k S' : Nat} {dp' : Int} (h : LS S k S' dp') : S' ≤ S * p2 k := h.le
theorem LS.grid2 {S k S' : Nat} {dp' : Int} (h : LS S k S' dp') (u x : Nat) (hu : 400 + dp' ≤ u) (hx : p10 u * x ≤ S * p2 k) : p10 u * x ≤ S' := h.grid u x hu hx
attribute [local irreducible] p2 p10
theorem thr_grid (c : Nat) (hc : c ≤ 1460) : ∃ x, thr * p10 1200 = p10 710 * x * p2 c := by
  refine ⟨18014398509481983 * p2 (1460 - c) * 5 ^ 490, ?_⟩
  have e1 : p10 1200 = p10 710 * p10 490 := p10_add 710 490
  have e2 : p2 970 * p2 490 = p2 (1460 - c) * p2 c := by rw [← p2_add, ← p2_add]; congr 1; omega
  rw [thr_dec, e1, ten490]
  generalize (5 : Nat) ^ 490 = f
  generalize p10 710 = t
  calc 18014398509481983 * p2 970 * (t * (p2 490 * f)) = 18014398509481983 * t * f * (p2 970 * p2 490) := by ac_rfl
    _ = 18014398509481983 * t * f * (p2 (1460 - c) * p2 c) := by rw [e2]
    _ = _ := by ac_rfl

theorem K_split : p10 1200 = 10 * p10 1199 := by rw [← p10_1, ← p10_add]
/-- the value is too great for a double -/
def bigS (S0 : Nat) : Prop := thr * p10 1200 ≤ S0

structure F1 (S0 e S : Nat) : Prop where
  le : S * p2 e ≤ S0
  ge : bigS S0 → thr * p10 1200 ≤ S * p2 e
theorem F1.start (S0 : Nat) : F1 S0 0 S0 := ⟨by rw [p2_0, Nat.mul_one]; exact Nat.le_refl _, fun h => by rw [p2_0, Nat.mul_one]; exact h⟩
theorem F1.next {S0 e S k S' : Nat} {dp' : Int} (h : F1 S0 e S) (hr : RSh S k S' dp') (hdp : dp' ≤ 310) (hek : e + k ≤ 1460) : F1 S0 (e + k) S' := by
  constructor
  · refine Nat.le_trans ?_ h.le
    rw [Nat.add_comm, p2_add, ← Nat.mul_assoc]
    exact Nat.mul_le_mul_right _ hr.le2
  · intro hb
    have h1 := h.ge hb
    obtain ⟨x, hx⟩ := thr_grid (e + k) hek
    rw [hx, p2_add, Nat.mul_comm (p2 e), ← Nat.mul_assoc] at h1
    have h2 := Nat.le_of_mul_le_mul_right h1 (p2_pos e)
    have h3 := hr.grid2 710 x (by omega) h2
    rw [hx]
    exact Nat.mul_le_mul_right _ h3
theorem F1.ebound {S0 e S : Nat} (h : F1 S0 e S) (hS : p10 1200 ≤ S) (h0 : S0 < p10 1510) : e < 1030 := by
  have h1 : p10 1200 * p2 e < p10 1200 * p10 310 := by
    rw [← p10_add]
    exact Nat.lt_of_le_of_lt (Nat.mul_le_mul_right _ hS) (Nat.lt_of_le_of_lt h.le h0)
  have h2 := Nat.lt_of_mul_lt_mul_left h1
  exact p2_lt (Nat.lt_of_lt_of_le h2 p310)

structure F2 (S0 e j S : Nat) : Prop where
  le : S * p2 e ≤ S0 * p2 j
  ge : bigS S0 → thr * p10 1200 * p2 j ≤ S * p2 e
  low : p10 869 * p2 j ≤ S
theorem F2.start {S0 e S : Nat} (h : F1 S0 e S) (hl : p10 869 ≤ S) : F2 S0 e 0 S :=
  ⟨by rw [p2_0, Nat.mul_one]; exact h.le, fun hb => by rw [p2_0, Nat.mul_one]; exact h.ge hb, by rw [p2_0, Nat.mul_one]; exact hl⟩
theorem F2.next {S0 e j S k S' : Nat} {dp' : Int} (h : F2 S0 e j S) (hr : LS S k S' dp') (hdp : dp' ≤ 310) (he : e ≤ 1460) : F2 S0 e (j + k) S' := by
  refine ⟨?_, fun hb => ?_, ?_⟩
  · rw [p2_add, ← Nat.mul_assoc]
    refine Nat.le_trans (Nat.mul_le_mul_right _ hr.le2) ?_
    rw [Nat.mul_right_comm]
    exact Nat.mul_le_mul_right _ h.le
  · have h1 := h.ge hb
    obtain ⟨x, hx⟩ := thr_grid e he
    have h2 : p10 710 * (x * p2 j * p2 k) ≤ S * p2 k := by
      rw [← Nat.mul_assoc]
      refine Nat.mul_le_mul_right _ ?_
      rw [hx] at h1
      refine Nat.le_of_mul_le_mul_right (c := p2 e) ?_ (p2_pos e)
      calc p10 710 * (x * p2 j) * p2 e = p10 710 * x * p2 e * p2 j := by ac_rfl
        _ ≤ _ := h1
    have h3 := hr.grid2 710 (x * p2 j * p2 k) (by omega) h2
    rw [hx, p2_add]
    calc p10 710 * x * p2 e * (p2 j * p2 k) = p10 710 * (x * p2 j * p2 k) * p2 e := by ac_rfl
      _ ≤ _ := Nat.mul_le_mul_right _ h3
  · have h2 : p10 869 * (p2 j * p2 k) ≤ S * p2 k := by
      rw [← Nat.mul_assoc]
      exact Nat.mul_le_mul_right _ h.low
    rw [p2_add]
    exact hr.grid2 869 _ (by omega) h2
theorem F2.jbound {S0 e j S : Nat} (h : F2 S0 e j S) (hS : S < p10 1200) : j < 1100 := by
  have h1 : p10 869 * p2 j < p10 869 * p10 331 := by
    rw [← p10_add]
    exact Nat.lt_of_le_of_lt h.low hS
  exact p2_lt (Nat.lt_of_lt_of_le (Nat.lt_of_mul_lt_mul_left h1) p331)

theorem F2.hi {S0 e j S : Nat} (h : F2 S0 e j S) (hS : 5 * p10 1199 ≤ S) (he : j + 1025 ≤ e) : bigS S0 := by
  obtain ⟨r, rfl⟩ : ∃ r, e = j + (1025 + r) := ⟨e - j - 1025, by omega⟩
  have h1 := h.le
  rw [p2_add, Nat.mul_comm (p2 j), ← Nat.mul_assoc] at h1
  have h2 := Nat.le_of_mul_le_mul_right h1 (p2_pos j)
  refine Nat.le_trans ?_ h2
  have h3 : p2 1025 ≤ p2 (1025 + r) := p2_mono (by omega)
  have h4 : p2 1025 = 2 * p2 1024 := by rw [← p2_1, ← p2_add]
  refine Nat.le_trans ?_ (Nat.mul_le_mul hS h3)
  rw [h4, K_split]
  have := Nat.mul_le_mul_right (10 * p10 1199) thr_le
  calc thr * (10 * p10 1199) ≤ p2 1024 * (10 * p10 1199) := this
    _ = 5 * p10 1199 * (2 * p2 1024) := by generalize p2 1024 = a; generalize p10 1199 = b; rw [show a * (10 * b) = 10 * (a * b) by ac_rfl, show 5 * b * (2 * a) = 5 * 2 * (a * b) by ac_rfl]
theorem F2.lo {S0 e j S : Nat} (h : F2 S0 e j S) (hS : S < p10 1200) (he : e ≤ j + 1023) : ¬ bigS S0 := by
  intro hb
  have h1 := h.ge hb
  have h2 : p2 e ≤ p2 (j + 1023) := p2_mono he
  have h3 : thr * p10 1200 * p2 j < p10 1200 * p2 (j + 1023) := Nat.lt_of_le_of_lt h1 (Nat.mul_lt_mul_of_lt_of_le hS h2 (p2_pos _))
  rw [p2_add, Nat.mul_comm thr, Nat.mul_assoc, Nat.mul_comm (p2 j)] at h3
  have h4 := Nat.lt_of_mul_lt_mul_left h3
  have h5 := Nat.lt_of_mul_lt_mul_right h4
  have := thr_1023
  omega
theorem F2.eqv {S0 e j S : Nat} (h : F2 S0 e j S) (he : e = j + 1024) : bigS S0 ↔ 18014398509481983 * p10 1200 ≤ S * 18014398509481984 := by
  subst he
  have e1 : p2 1024 = 18014398509481984 * p2 970 := by rw [← p2_54, ← p2_add]
  have e2 : p2 (j + 1024) = 18014398509481984 * p2 970 * p2 j := by rw [p2_add, e1, Nat.mul_comm]
  constructor
  · intro hb
    have h1 := h.ge hb
    rw [thr_dec, e2] at h1
    refine Nat.le_of_mul_le_mul_right (c := p2 970 * p2 j) ?_ (Nat.mul_pos (p2_pos _) (p2_pos _))
    calc 18014398509481983 * p10 1200 * (p2 970 * p2 j) = 18014398509481983 * p2 970 * p10 1200 * p2 j := by ac_rfl
      _ ≤ S * (18014398509481984 * p2 970 * p2 j) := h1
      _ = _ := by ac_rfl
  · intro hx
    have h1 := h.le
    rw [e2, ← Nat.mul_assoc] at h1
    have h2 := Nat.le_of_mul_le_mul_right h1 (p2_pos j)
    refine Nat.le_trans ?_ h2
    rw [thr_dec]
    calc 18014398509481983 * p2 970 * p10 1200 = 18014398509481983 * p10 1200 * p2 970 := by ac_rfl
      _ ≤ S * 18014398509481984 * p2 970 := Nat.mul_le_mul_right _ hx
      _ = _ := by ac_rfl

/-- the value of a decimal by its place -/
theorem px_sv {d : Array Nat} {n : Nat} (hd : DN d n) (dp : Int) (hdp : -400 ≤ dp) (r c : Nat) (hc : (c : Int) = 1200 + dp - r) : px d n r * p10 c ≤ sv d n dp ∧ sv d n dp < (px d n r + 1) * p10 c := by
  have hn8 := hd.n8
  unfold sv
  rcases Nat.le_total r n with h | h
  · obtain ⟨a, b⟩ := dv_split d r n h hd.dig
    rw [px_dv d n r h]
    have e : p10 c = 10 ^ (n - r) * 10 ^ (1200 + dp - n).toNat := by rw [← Nat.pow_add]; exact (p10_of _ _ (by omega)).symm
    rw [e, ← Nat.mul_assoc, ← Nat.mul_assoc]
    exact ⟨Nat.mul_le_mul_right _ a, Nat.mul_lt_mul_of_pos_right b (Nat.pow_pos (by decide))⟩
  · rw [px_ge d n r h, Nat.mul_assoc]
    have e : 10 ^ (1200 + dp - n).toNat = 10 ^ (r - n) * p10 c := by rw [p10_def]; rw [← Nat.pow_add]; congr 1; omega
    rw [e]
    refine ⟨Nat.le_refl _, ?_⟩
    rw [Nat.add_mul, Nat.mul_assoc]
    have := p10_pos c
    omega
theorem DN.sv_ge {d : Array Nat} {n : Nat} (hd : DN d n) (dp : Int) (hdp : -390 ≤ dp) (c : Nat) (hc : (c : Int) = 1199 + dp) : p10 c ≤ sv d n dp := by
  have h := (px_sv hd dp (by omega) 1 c (by omega)).1
  have h1 := px_low hd 0
  refine Nat.le_trans ?_ h
  have := Nat.mul_le_mul_right (p10 c) h1
  simpa using this
theorem DN.sv_lt {d : Array Nat} {n : Nat} (hd : DN d n) (dp : Int) (hdp : -390 ≤ dp) (c : Nat) (hc : (c : Int) = 1200 + dp) : sv d n dp < p10 c := by
  have h := (px_sv hd dp (by omega) 0 c (by omega)).2
  simpa [px] using h
end Go.Proofs.YtdfbokmjipdolaaGreatDoor
/- Plain law of floatBits' rounding at the edge. -/
namespace Go.Proofs.YtdfbokmjipdolaaGreatDoor
open Go.RowKit

theorem p10_16 : p10 16 = 10000000000000000 := rfl
attribute [local irreducible] p2 p10

theorem dp_of {d : Array Nat} {n : Nat} (hd : DN d n) (dp : Int) (hdp : -390 ≤ dp) (hS : sv d n dp < 9007199254740992 * p10 1200) : dp ≤ 16 := by
  refine Decidable.byContradiction fun h => ?_
  have h1 := hd.sv_ge dp hdp (1199 + dp).toNat (by omega)
  have h2 : p10 (1199 + dp).toNat < p10 1216 := by
    refine Nat.lt_of_le_of_lt h1 (Nat.lt_of_lt_of_le hS ?_)
    rw [show 1216 = 16 + 1200 from rfl, p10_add, p10_16]
    exact Nat.mul_le_mul_right _ (by decide)
  have := p10_lt h2
  omega
theorem dp_ge {d : Array Nat} {n : Nat} (hd : DN d n) (dp : Int) (hdp : -390 ≤ dp) (hS : 45035996273704960 * p10 1199 ≤ sv d n dp) : 16 ≤ dp := by
  refine Decidable.byContradiction fun h => ?_
  have h1 := hd.sv_lt dp hdp (1200 + dp).toNat (by omega)
  have h2 : p10 1215 < p10 (1200 + dp).toNat := by
    refine Nat.lt_of_le_of_lt ?_ h1
    refine Nat.le_trans ?_ hS
    rw [show 1215 = 16 + 1199 from rfl, p10_add, p10_16]
    exact Nat.mul_le_mul_right _ (by decide)
  have := p10_lt h2
  omega

theorem rint_edge {d : Array Nat} {n : Nat} (hd : DN d n) (tr : Bool) (dp : Int) (hdp : -390 ≤ dp) (h1 : sv d n dp < 9007199254740992 * p10 1200) (h2 : 45035996273704960 * p10 1199 ≤ sv d n dp) :
    rint d n tr dp = 9007199254740992 ↔ 90071992547409915 * p10 1199 ≤ sv d n dp := by
  have e16 : dp = 16 := by have := dp_of hd dp hdp h1; have := dp_ge hd dp hdp h2; omega
  subst e16
  obtain ⟨a1, a2⟩ := px_sv hd 16 (by decide) 16 1200 (by omega)
  obtain ⟨b1, b2⟩ := px_sv hd 16 (by decide) 17 1199 (by omega)
  have hq := p10_pos 1199
  have hK := K_split
  have e17 : px d n 17 = px d n 16 * 10 + dg d n 16 := rfl
  have e15 : px d n 16 = px d n 15 * 10 + dg d n 15 := rfl
  have hdg := dg_le hd 16
  have hI : px d n 16 < 9007199254740992 := Nat.lt_of_mul_lt_mul_right (Nat.lt_of_le_of_lt a1 h1)
  have hX : 90071992547409915 * p10 1199 ≤ sv d n 16 ↔ 90071992547409915 ≤ px d n 17 := by
    constructor
    · intro h
      have := Nat.lt_of_mul_lt_mul_right (Nat.lt_of_le_of_lt h b2)
      omega
    · intro h
      exact Nat.le_trans (Nat.mul_le_mul_right _ h) b1
  rw [hX, e17]
  have hs : px d n 16 = 9007199254740991 → (sru d n tr 16 = true ↔ 5 ≤ dg d n 16) := by
    intro hI2
    unfold sru
    by_cases hn : n ≤ 16
    · rw [if_pos (Or.inr (by omega)), dg, if_neg (by omega)]
      simp
    · have d16 := hd.dig 16 (by omega)
      have d15 := hd.dig 15 (by omega)
      have g16 : dg d n 16 = d.getD 16 0 - 48 := by rw [dg, if_pos (by omega)]
      have g15 : dg d n 15 = d.getD 15 0 - 48 := by rw [dg, if_pos (by omega)]
      rw [g15] at e15
      rw [g16]
      rw [if_neg (show ¬ ((16 : Int) < 0 ∨ (n : Int) ≤ 16) by omega)]
      rw [show (16 : Int).toNat = 16 from rfl, show 16 - 1 = 15 from rfl]
      generalize d.getD 16 0 = v at *
      generalize d.getD 15 0 = u at *
      split
      · rename_i hc
        have hodd : (u - 48) % 2 ≠ 0 := by omega
        rw [decide_eq_true hodd]
        simp
        omega
      · rename_i hc
        simp only [decide_eq_true_eq]
        omega
  unfold rint
  rw [show (16 : Int).toNat = 16 from rfl]
  by_cases hI2 : px d n 16 = 9007199254740991
  · have := hs hI2
    by_cases h5 : 5 ≤ dg d n 16
    · rw [if_pos (this.2 h5)]; omega
    · rw [if_neg (fun h => h5 (this.1 h))]; omega
  · split <;> omega
end Go.Proofs.YtdfbokmjipdolaaGreatDoor
/- A scope whose jumps all lead forward: each label's rest is walked from where the jump is met. -/
namespace Go.Proofs.YtdfbokmjipdolaaGreatDoor
open Go.RowKit

/-- as Q; by a goto to label l: J l -/
def jumpJ (J : Nat → Act → World → Prop) (Q : Exit → Act → World → Prop) : Exit → Act → World → Prop
  | .goto l, a, w => J l a w
  | e, a, w => Q e a w

section
variable {P : Program} {a : Act} {w : World} {Q : Exit → Act → World → Prop} {J : Nat → Act → World → Prop}
@[go_sem] theorem jumpJ_normal : jumpJ J Q .normal a w = Q .normal a w := rfl
@[go_sem] theorem jumpJ_exit (id : Nat) : jumpJ J Q (.exit id) a w = Q (.exit id) a w := rfl
@[go_sem] theorem jumpJ_ret : jumpJ J Q .ret a w = Q .ret a w := rfl
@[go_sem] theorem jumpJ_goto (l : Nat) : jumpJ J Q (.goto l) a w = J l a w := rfl

theorem wp_scope_fwd {c : Code} (first : ∀ J : Nat → Act → World → Prop, (∀ l rest, findLabel c l = some rest → ∀ a w, rest.wp P (Exit.noGoto Q) a w → J l a w) → c.wp P (jumpJ J Q) a w) : (Code.scope c).wp P Q a w := by
  have first := first (fun l a w => ∃ rest, findLabel c l = some rest ∧ rest.wp P (Exit.noGoto Q) a w) (fun l rest h a w hw => ⟨rest, h, hw⟩)
  intro b k cs
  obtain ⟨e, a₁, w₁, hq, harr⟩ := first b (.inScope c :: k) cs
  cases e with
  | normal => exact ⟨.normal, a₁, w₁, hq, .head step_scope (Steps.trans harr (.one step_inScope))⟩
  | exit id => exact ⟨.exit id, a₁, w₁, hq, fun k' hk => .head step_scope (harr k' (by simp [exitTo, hk]))⟩
  | goto l =>
    obtain ⟨rest, hf, hw⟩ := hq
    have hg : gotoIn l (.inScope c :: k) = some (.code rest :: .inScope c :: k) := by simp [gotoIn, hf]
    obtain ⟨e₂, a₂, w₂, hq₂, harr₂⟩ := hw b (.inScope c :: k) cs
    have hpre := harr _ hg
    cases e₂ with
    | normal => exact ⟨.normal, a₂, w₂, hq₂, .head step_scope (Steps.trans hpre (Steps.trans harr₂ (.one step_inScope)))⟩
    | exit id => exact ⟨.exit id, a₂, w₂, hq₂, fun k' hk => .head step_scope (Steps.trans hpre (harr₂ k' (by simp [exitTo, hk])))⟩
    | goto l => exact hq₂.elim
    | ret => exact ⟨_, a₂, w₂, hq₂, .of_steps (.head step_scope hpre) harr₂⟩
    | panic ch => exact ⟨_, a₂, w₂, hq₂, .of_steps (.head step_scope hpre) harr₂⟩
    | outgrown => exact ⟨_, a₂, w₂, hq₂, .of_steps (.head step_scope hpre) harr₂⟩
  | ret => exact ⟨_, a₁, w₁, hq, .of_steps (.one step_scope) harr⟩
  | panic ch => exact ⟨_, a₁, w₁, hq, .of_steps (.one step_scope) harr⟩
  | outgrown => exact ⟨_, a₁, w₁, hq, .of_steps (.one step_scope) harr⟩
end
end Go.Proofs.YtdfbokmjipdolaaGreatDoor
