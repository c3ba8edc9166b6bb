/- rightShift of Go's own decimal. -/
import Derived.Test.YtdfbokmjipdolaaGreatDoorQ5
set_option linter.unusedVariables false
set_option linter.unusedSimpArgs false
namespace Go.Proofs.YtdfbokmjipdolaaGreatDoor
open Go.RowKit

def RightPost (w : World) (b : Nat) (t : TypeId) (d : Array Nat) (n : Nat) (dp : Int) (ng : Bool) (k : Nat) (e : Ending) (w' : World) : Prop :=
  e = .returned (.tuple #[]) ∧ ∃ (w1 : World) (d' : Array Nat) (n' : Nat) (dp' : Int) (tr' : Bool), Dr w w1 ∧ w' = wD w1 b t d' n' dp' ng tr' ∧ DN d' n' ∧ RSh (sv d n dp) k (sv d' n' dp') dp' ∧ dp - 19 ≤ dp' ∧ dp' ≤ dp

/-- 800 digits are written, the rest is lost -/
structure OV (d : Array Nat) (n k r0 : Nat) (D : Array Nat) : Prop where
  size : D.size = 800
  eq : dv D 800 = px d n (r0 + 800) / (10 * 2 ^ k)
  dig : ∀ i < 800, 48 ≤ D.getD i 0 ∧ D.getD i 0 ≤ 57
  lead : D.getD 0 0 ≠ 48
def RW (d : Array Nat) (n k r0 w c : Nat) (D : Array Nat) : Prop := RP d n k r0 w c D ∨ (w = 800 ∧ OV d n k r0 D)
theorem RP.ov {d : Array Nat} {n k r0 c : Nat} {D : Array Nat} (h : RP d n k r0 800 c D) : OV d n k r0 D := by
  refine ⟨h.size, ?_, h.dig, ?_⟩
  · rw [h.eq]
    exact (Nat.div_eq_of_lt_le (Nat.le_add_right _ _) (by have := h.lt; rw [Nat.add_mul, Nat.one_mul]; omega)).symm
  · rcases h.lead with h | h
    · omega
    · exact h.2
theorem RW.ov {d : Array Nat} {n k r0 c : Nat} {D : Array Nat} (h : RW d n k r0 800 c D) : OV d n k r0 D := by
  rcases h with h | h
  · exact h.ov
  · exact h.2
theorem RW.size {d : Array Nat} {n k r0 w c : Nat} {D : Array Nat} (h : RW d n k r0 w c D) : D.size = 800 := by
  rcases h with h | h
  · exact h.size
  · exact h.2.size
theorem RW.w8 {d : Array Nat} {n k r0 w c : Nat} {D : Array Nat} (h : RW d n k r0 w c D) : w ≤ 800 := by
  rcases h with h | h
  · exact h.w8
  · omega
theorem RW.rp {d : Array Nat} {n k r0 w c : Nat} {D : Array Nat} (h : RW d n k r0 w c D) (hw : w < 800) : RP d n k r0 w c D := by
  rcases h with h | h
  · exact h
  · omega
theorem RW.end {d : Array Nat} {n k r0 w : Nat} {D : Array Nat} (h : RW d n k r0 w 0 D) : DN D w ∧ (px d n (r0 + w) = dv D w * (10 * 2 ^ k) ∨ (w = 800 ∧ dv D w = px d n (r0 + w) / (10 * 2 ^ k))) := by
  rcases h with h | ⟨rfl, h⟩
  · have h2k : 0 < 2 ^ k := Nat.pow_pos (by decide)
    refine ⟨⟨h.size, ?_, h.w8, h.dig, ?_⟩, Or.inl h.eq⟩
    · rcases h.lead with h | h <;> omega
    · rcases h.lead with h | h
      · omega
      · exact h.2
  · exact ⟨⟨h.size, by decide, Nat.le_refl _, h.dig, h.lead⟩, Or.inr ⟨rfl, h.eq⟩⟩
theorem dvd_next {k j c : Nat} (hj : j ≤ k) (h : 2 ^ j ∣ c) : 2 ^ (j + 1) ∣ c % 2 ^ k * 10 ∧ (j + 1 = k + 1 → c % 2 ^ k * 10 = 0) := by
  have h1 : 2 ^ j ∣ c % 2 ^ k := (Nat.dvd_mod_iff (Nat.pow_dvd_pow 2 hj)).2 h
  refine ⟨?_, fun e => ?_⟩
  · rw [Nat.pow_succ]
    exact Nat.mul_dvd_mul h1 (by decide)
  · have e' : j = k := by omega
    subst e'
    have := Nat.eq_zero_of_dvd_of_lt h1 (Nat.mod_lt _ (Nat.pow_pos (by decide)))
    rw [this]
theorem and_mask (c k : Nat) (hc : c < 2 ^ 64) (hk : k ≤ 60) : bits BinOp.and IntKind.u64 (c : Int) ((2 ^ k : Nat) - 1 : Int) = ((c % 2 ^ k : Nat) : Int) := by
  have h2k : 0 < 2 ^ k := Nat.pow_pos (by decide)
  have h60 : 2 ^ k ≤ 2 ^ 60 := Nat.pow_le_pow_right (by decide) hk
  have e : ((2 ^ k : Nat) - 1 : Int) = ((2 ^ k - 1 : Nat) : Int) := by omega
  rw [e, bits_and_u64 c _ hc (by omega), Nat.and_two_pow_sub_one_eq_mod]

set_option maxRecDepth 100000 in
set_option maxHeartbeats 4000000 in
theorem right_any (w : World) (b : Nat) (t : TypeId) (d : Array Nat) (n : Nat) (dp : Int) (ng tr : Bool) (k : Nat) (hb : b < w.heap.size) (hd : DN d n) (hk : 1 ≤ k) (hk' : k ≤ 60) (hdp : -370 ≤ dp) (hdp' : dp ≤ 1000) :
    Calls Tryz.prog 125 #[.pointer (some ⟨b, 0, none⟩), .int .u64 k] (wD w b t d n dp ng tr) (RightPost w b t d n dp ng k) := by
  have Hd := Lib.hid hd
  have hs := hd.size
  have hn0 := hd.n0
  have hn8 := hd.n8
  clear hd
  obtain ⟨Z, hZ⟩ : ∃ Z : Nat, Z = 2 ^ k := ⟨_, rfl⟩
  have bZ : Z ≤ 1152921504606846976 := by rw [hZ]; exact Nat.pow_le_pow_right (n := 2) (by decide) hk'
  have bZ0 : 0 < Z := by rw [hZ]; exact Nat.pow_pos (by decide)
  have eZ : (2 : Int) ^ k = Z := by rw [hZ]; push_cast; rfl
  have HZ := Lib.hid hZ
  clear hZ
  go_enter Tryz.func125, Tryz.ntmps125
  go_upto_block 0 with fail
  go_cut [4, 6] (fun s4 s6 wx => ∃ r P : Nat, r ≤ 19 ∧ s4 = .int .i64 ((r : Int) + 1) ∧ s6 = .int .u64 P ∧ Hid (P = px d n (r + 1)) ∧ Hid (px d n r < Z) ∧ Z ≤ P ∧ wx = wD w b t d n dp ng tr)
  case first =>
    go_wp2_with fail
    go_loopg [4, 6] n (fun g s4 s6 wx => ∃ r P : Nat, g = n - r ∧ r ≤ n ∧ s4 = .int .i64 r ∧ s6 = .int .u64 P ∧ Hid (P = px d n r) ∧ Hid (r = 0 ∨ ∃ r', r = r' + 1 ∧ px d n r' < Z) ∧ wx = wD w b t d n dp ng tr)
    case atStart => exact ⟨0, 0, rfl, Nat.zero_le _, rfl, rfl, Lib.hid rfl, Lib.hid (Or.inl rfl), rfl⟩
    case round =>
      obtain ⟨r, P, hg, hr, rfl, rfl, HP, HR, rfl⟩ := hrel
      have Hg := Lib.hid hg
      clear hg
      have bP : P < 11529215046068469760 := by
        rw [HP.out]
        rcases HR.out with h | ⟨r', h', h⟩
        · rw [h]; show 0 < _; decide
        · have := dg_le Hd.out r'; rw [h', px]; omega
      by_cases hP : Z ≤ P
      · have q : ((P : Int) / (Z : Int) == 0) = false := by
          rw [beq_eq_false_iff_ne]
          have : 0 < P / Z := Nat.div_pos hP bZ0
          omega
        go_wp2_with fail
        go_meet
        rcases HR.out with h | ⟨r', h', h⟩
        · exfalso
          have := HP.out
          rw [h] at this
          simp only [px] at this
          omega
        · refine ⟨r', P, ?_, vi (by omega), rfl, Lib.hid (by rw [HP.out, h']), Lib.hid h, hP, rfl⟩
          cases r' with
          | zero => omega
          | succ r'' =>
            have := px_r0 Hd.out hk' (by rw [← HZ.out]; exact h)
            omega
      · have q : ((P : Int) / (Z : Int) == 0) = true := by
          rw [beq_iff_eq]
          have : P / Z = 0 := Nat.div_eq_of_lt (by omega)
          omega
        have hP' : P < Z := by omega
        clear hP
        by_cases hrn : r < n
        · obtain ⟨v, hv⟩ : ∃ v, v = d.getD r 0 := ⟨_, rfl⟩
          have hcv : (wD w b t d n dp ng tr).cell? ⟨b, r, none⟩ = some (.int .u8 v) := by rw [hv]; exact cell_lo hb hs (by omega)
          have hvd := Hd.out.dig r hrn
          rw [← hv] at hvd
          have Hv := Lib.hid hv
          clear hv
          go_wp2_with fail
          go_roundg (n - (r + 1))
          case measure => have := Hg.out; omega
          case rel =>
            refine ⟨r + 1, P * 10 + (v - 48), rfl, by omega, vi (by omega), vi (by omega), Lib.hid ?_, Lib.hid (Or.inr ⟨r, rfl, by rw [← HP.out]; exact hP'⟩), rfl⟩
            rw [px, ← HP.out, dg, if_pos hrn, ← Hv.out]
        · have ern : r = n := by omega
          subst ern
          have hP0 : 0 < P := by
            rw [HP.out, px_dv d r r (Nat.le_refl _)]
            have := Hd.out.low
            have := Nat.pow_pos (n := r - 1) (show 0 < 10 by decide)
            omega
          have q0 : ((P : Int) == 0) = false := by rw [beq_eq_false_iff_ne]; omega
          go_wp2_with fail
          clear q q0
          go_loopg [4, 6] (Z - P) (fun g s4 s6 wx => ∃ r' P' : Nat, g = Z - P' ∧ r ≤ r' ∧ r' ≤ r + 60 ∧ s4 = .int .i64 r' ∧ s6 = .int .u64 P' ∧ 0 < P' ∧ Hid (P' = px d r r') ∧ Hid (r' = r ∨ ∃ r'', r' = r'' + 1 ∧ px d r r'' < Z) ∧ wx = wD w b t d r dp ng tr)
          case atStart => exact ⟨r, P, rfl, Nat.le_refl _, by omega, rfl, rfl, hP0, HP, Lib.hid (Or.inl rfl), rfl⟩
          case round =>
            obtain ⟨r', P', hg', hr1, hr2, rfl, rfl, hP0', HP', HR', rfl⟩ := hrel
            have Hg' := Lib.hid hg'
            clear hg'
            have bP' : P' < 11529215046068469760 := by
              rw [HP'.out]
              rcases HR'.out with h | ⟨r'', h', h⟩
              · rw [h, ← HP.out]; exact bP
              · have := dg_le Hd.out r''; rw [h', px]; omega
            by_cases hPZ : Z ≤ P'
            · have q : ((P' : Int) / (Z : Int) == 0) = false := by
                rw [beq_eq_false_iff_ne]
                have : 0 < P' / Z := Nat.div_pos hPZ bZ0
                omega
              go_wp2_with fail
              go_meet
              rcases HR'.out with h | ⟨r'', h', h⟩
              · exfalso
                have h1 := HP'.out
                rw [h, ← HP.out] at h1
                omega
              · refine ⟨r'', P', ?_, vi (by omega), rfl, Lib.hid (by rw [HP'.out, h']), Lib.hid h, hPZ, rfl⟩
                cases r'' with
                | zero => omega
                | succ r3 =>
                  have := px_r0 Hd.out hk' (by rw [← HZ.out]; exact h)
                  omega
            · have q : ((P' : Int) / (Z : Int) == 0) = true := by
                rw [beq_iff_eq]
                have : P' / Z = 0 := Nat.div_eq_of_lt (by omega)
                omega
              have hr3 : r' ≤ 19 := by
                cases r' with
                | zero => omega
                | succ r3 =>
                  have := px_r0 Hd.out hk' (r := r3) (by rw [← HZ.out, ← HP'.out]; omega)
                  omega
              have hP3 : P' < Z := by omega
              clear hPZ
              go_wp2_with fail
              go_roundg (Z - P' * 10)
              case measure => have := Hg'.out; omega
              case rel =>
                refine ⟨r' + 1, P' * 10, rfl, by omega, by omega, vi (by omega), vi (by omega), by omega, Lib.hid ?_, Lib.hid (Or.inr ⟨r', rfl, by rw [← HP'.out]; exact hP3⟩), rfl⟩
                rw [px, ← HP'.out, dg, if_neg (by omega), Nat.add_zero]
  case rest =>
    obtain ⟨r, P, hr, rfl, rfl, HP, HR, hPZ, rfl⟩ := hcut
    have hRP : RP d n k (r + 1) 0 P d := by
      rw [HP.out]
      refine RP.start Hd.out ?_ ?_
      · rw [← HZ.out]; exact HR.out
      · rw [← HZ.out, ← HP.out]; exact hPZ
    have HRP := Lib.hid hRP
    have bP : P < 10 * Z := by rw [HZ.out]; exact hRP.lt
    clear hRP
    have hmask : ∀ c : Nat, c < 18446744073709551616 → bits BinOp.and IntKind.u64 (c : Int) ((Z : Int) - 1) = ((c % Z : Nat) : Int) := by
      intro c hc
      rw [HZ.out]
      exact and_mask c k hc hk'
    have HM := Lib.hid hmask
    clear hmask
    go_upto_block 4 with fail
    go_cut [5, 6] (fun s5 s6 wx => ∃ (w1 c : Nat) (D : Array Nat), s5 = .int .i64 w1 ∧ s6 = .int .u64 c ∧ w1 ≤ 800 ∧ c < 10 * Z ∧ n ≤ r + 1 + w1 ∧ Hid (RP d n k (r + 1) w1 c D) ∧ wx = wD w b t D n (dp - r) ng tr)
    case first =>
      go_wp2_with fail
      go_loopg [4, 5, 6] (n - (r + 1)) (fun g s4 s5 s6 wx => ∃ (w1 c : Nat) (D : Array Nat), g = n - (r + 1 + w1) ∧ s4 = .int .i64 ((r : Int) + 1 + w1) ∧ s5 = .int .i64 w1 ∧ s6 = .int .u64 c ∧ w1 ≤ 800 ∧ c < 10 * Z ∧ Hid (RP d n k (r + 1) w1 c D) ∧ wx = wD w b t D n (dp - r) ng tr)
      case atStart => exact ⟨0, P, d, by omega, vi (by omega), rfl, rfl, by omega, bP, HRP, rfl⟩
      case round =>
        obtain ⟨w1, c, D, hg, rfl, rfl, rfl, hw8, hc, HW, rfl⟩ := hrel
        have Hg := Lib.hid hg
        clear hg
        have hDs := HW.out.size
        by_cases hrn : r + 1 + w1 < n
        · obtain ⟨R, hR⟩ : ∃ R, R = r + 1 + w1 := ⟨_, rfl⟩
          have eR : (r : Int) + 1 + w1 = R := by omega
          obtain ⟨v, hv⟩ : ∃ v, v = D.getD R 0 := ⟨_, rfl⟩
          have hv1 : v = d.getD R 0 := by rw [hv]; exact HW.out.keep R (by omega)
          have hvd := Hd.out.dig R (by omega)
          rw [← hv1] at hvd
          have hcv : (wD w b t D n (dp - r) ng tr).cell? ⟨b, R, none⟩ = some (.int .u8 v) := by rw [hv]; exact cell_lo hb hDs (by omega)
          have hw1 : w1 < 800 := by omega
          obtain ⟨v2, hcw⟩ : ∃ v2 : Nat, (wD w b t D n (dp - r) ng tr).cell? ⟨b, w1, none⟩ = some (.int .u8 v2) := ⟨_, cell_lo hb hDs hw1⟩
          have hb2 : bits BinOp.and IntKind.u64 (c : Int) ((Z : Int) - 1) = ((c % Z : Nat) : Int) := HM.out c (by omega)
          obtain ⟨hnx, hq9⟩ := HW.out.next Hd.out hw1
          rw [← HZ.out] at hnx hq9
          have hdg : dg d n (r + 1 + w1) = v - 48 := by rw [dg, if_pos hrn, ← hR, ← hv1]
          rw [hdg] at hnx
          have Hnx := Lib.hid hnx
          have Hv := Lib.hid hv
          have HR2 := Lib.hid hR
          clear hv hv1 hR hnx hdg
          obtain ⟨Y, hY⟩ : ∃ Y, Y = c % Z := ⟨_, rfl⟩
          have bY : Y < Z := by rw [hY]; exact Nat.mod_lt _ bZ0
          rw [← hY] at hb2
          have HY := Lib.hid hY
          clear hY
          obtain ⟨X, hX⟩ : ∃ X, X = c / Z := ⟨_, rfl⟩
          have eX : (c : Int) / Z = X := by rw [hX]; push_cast; rfl
          rw [← hX] at hq9
          have HX := Lib.hid hX
          clear hX
          go_wp2_with fail
          go_roundg (n - (r + 1 + (w1 + 1)))
          case measure => have := Hg.out; omega
          case rel =>
            have hn2 := Hnx.out
            rw [← HY.out, ← HX.out] at hn2
            have hl := hn2.lt
            rw [← HZ.out] at hl
            have e2 := HR2.out
            refine ⟨w1 + 1, Y * 10 + (v - 48), D.setIfInBounds w1 (X + 48), rfl, vi (by omega), vi (by omega), vi (by omega), by omega, hl, Lib.hid hn2, ?_⟩
            rw [show (X : Int) + 48 = ((X + 48 : Nat) : Int) by omega]
            exact put_lo hDs hw1
        · go_wp2_with fail
          go_meet
          exact ⟨w1, c, D, rfl, rfl, hw8, hc, by omega, HW, rfl⟩
    case rest =>
      clear HP HR hPZ HRP bP
      obtain ⟨w1, c, D, rfl, rfl, hw8, hc, hnw, HW, rfl⟩ := hcut
      go_upto_block 6 with fail
      go_cut [5] (fun s5 wx => ∃ (w2 : Nat) (D : Array Nat) (tr1 : Bool), s5 = .int .i64 w2 ∧ w2 ≤ 800 ∧ n ≤ r + 1 + w2 ∧ Hid (RW d n k (r + 1) w2 0 D) ∧ wx = wD w b t D n (dp - r) ng tr1)
      case first =>
        go_wp2_with fail
        go_loopg [5, 6] (k + 1) (fun g s5 s6 wx => ∃ (w2 c : Nat) (D : Array Nat) (tr1 : Bool) (j : Nat), g = k + 1 - j ∧ j ≤ k + 1 ∧ Hid (2 ^ j ∣ c ∧ (j = k + 1 → c = 0)) ∧ s5 = .int .i64 w2 ∧ s6 = .int .u64 c ∧ w2 ≤ 800 ∧ c < 10 * Z ∧ n ≤ r + 1 + w2 ∧ Hid (RW d n k (r + 1) w2 c D) ∧ wx = wD w b t D n (dp - r) ng tr1)
        case atStart => exact ⟨w1, c, D, tr, 0, rfl, by omega, Lib.hid ⟨Nat.one_dvd _, fun h => by omega⟩, rfl, rfl, hw8, hc, hnw, Lib.hid (Or.inl HW.out), rfl⟩
        case round =>
          clear HW hc hnw hw8
          obtain ⟨w2, c, D, tr1, j, hg, hj, HJ, rfl, rfl, hw8, hc, hnw, HW, rfl⟩ := hrel
          have Hg := Lib.hid hg
          clear hg
          have hDs := HW.out.size
          by_cases hc0 : 0 < c
          · have hjk : j ≤ k := by
              refine Decidable.byContradiction fun h => ?_
              have := HJ.out.2 (by omega)
              omega
            have hdv := dvd_next hjk HJ.out.1
            rw [← HZ.out] at hdv
            have Hdv := Lib.hid hdv
            clear hdv
            have hb2 : bits BinOp.and IntKind.u64 (c : Int) ((Z : Int) - 1) = ((c % Z : Nat) : Int) := HM.out c (by omega)
            obtain ⟨Y, hY⟩ : ∃ Y, Y = c % Z := ⟨_, rfl⟩
            have bY : Y < Z := by rw [hY]; exact Nat.mod_lt _ bZ0
            rw [← hY] at hb2
            have HY := Lib.hid hY
            clear hY
            obtain ⟨X, hX⟩ : ∃ X, X = c / Z := ⟨_, rfl⟩
            have eX : (c : Int) / Z = X := by rw [hX]; push_cast; rfl
            have hq9 : X ≤ 9 := by
              rw [hX]
              exact Nat.le_of_lt_succ ((Nat.div_lt_iff_lt_mul bZ0).2 hc)
            have HX := Lib.hid hX
            clear hX
            by_cases hw1 : w2 < 800
            · obtain ⟨v2, hcw⟩ : ∃ v2 : Nat, (wD w b t D n (dp - r) ng tr1).cell? ⟨b, w2, none⟩ = some (.int .u8 v2) := ⟨_, cell_lo hb hDs hw1⟩
              obtain ⟨hnx, _⟩ := (HW.out.rp hw1).next Hd.out hw1
              rw [← HZ.out] at hnx
              have hdg : dg d n (r + 1 + w2) = 0 := by rw [dg, if_neg (by omega)]
              rw [hdg, ← HY.out, ← HX.out, Nat.add_zero] at hnx
              have Hnx := Lib.hid hnx
              clear hnx hdg
              go_wp2_with fail
              go_roundg (k + 1 - (j + 1))
              case measure => have := Hg.out; omega
              case rel =>
                have hl := Hnx.out.lt
                rw [← HZ.out] at hl
                refine ⟨w2 + 1, Y * 10, D.setIfInBounds w2 (X + 48), tr1, j + 1, rfl, by omega, Lib.hid (by rw [HY.out]; exact Hdv.out), vi (by omega), vi (by omega), by omega, hl, by omega, Lib.hid (Or.inl Hnx.out), ?_⟩
                rw [show (X : Int) + 48 = ((X + 48 : Nat) : Int) by omega]
                exact put_lo hDs hw1
            · have e8 : w2 = 800 := by omega
              subst e8
              have hov := HW.out.ov
              have Hov := Lib.hid hov
              clear hov
              by_cases hX0 : 0 < X
              · go_wp2_with fail
                go_roundg (k + 1 - (j + 1))
                case measure => have := Hg.out; omega
                case rel =>
                  exact ⟨800, Y * 10, D, true, j + 1, rfl, by omega, Lib.hid (by rw [HY.out]; exact Hdv.out), rfl, vi (by omega), by omega, by omega, by omega, Lib.hid (Or.inr ⟨rfl, Hov.out⟩), rfl⟩
              · go_wp2_with fail
                go_roundg (k + 1 - (j + 1))
                case measure => have := Hg.out; omega
                case rel =>
                  exact ⟨800, Y * 10, D, tr1, j + 1, rfl, by omega, Lib.hid (by rw [HY.out]; exact Hdv.out), rfl, vi (by omega), by omega, by omega, by omega, Lib.hid (Or.inr ⟨rfl, Hov.out⟩), rfl⟩
          · have hc0' : c = 0 := by omega
            subst hc0'
            go_wp2_with fail
            go_meet
            exact ⟨w2, D, tr1, rfl, hw8, hnw, HW, rfl⟩
      case rest =>
        clear HW hc hnw hw8
        obtain ⟨w2, D, tr1, rfl, hw8, hnw, HW, rfl⟩ := hcut
        have hDs := HW.out.size
        have htrim := trim_any w b t D w2 (dp - r) ng tr1 hb hDs hw8
        have hfin : ∀ w' e, TrimPost w b t D w2 (dp - r) ng tr1 e w' → RightPost w b t d n dp ng k e w' := by
          rintro w' e ⟨he, w3, n', h12, hn', hv, hw'⟩
          obtain ⟨q2, q3⟩ := HW.out.end
          have hn1 : 0 < n' := by
            refine Nat.pos_of_ne_zero fun h0 => ?_
            subst h0
            have := q2.low
            rw [hv, dv, Nat.zero_mul] at this
            have := Nat.pow_pos (n := w2 - 1) (show 0 < 10 by decide)
            omega
          have hR := RSh.of (N := n') (k := k) (r0 := r + 1) (dp := dp) (by omega) hnw hn8 (by omega) hw8 hn' hv q3
          have e1 : dp - (r + 1 : Nat) + 1 = dp - r := by omega
          rw [e1] at hR
          exact ⟨he, w3, D, n', dp - r, tr1, h12, by rw [hw', if_neg (by omega)], ⟨hDs, hn1, by omega, fun i hi => q2.dig i (by omega), q2.lead⟩, hR, by omega, by omega⟩
        go_wp2_with (go_at_call 133; refine htrim.mono ?_; rintro e w' ⟨rfl, hpost⟩)
        go_end0
        exact hfin _ _ ⟨rfl, hpost⟩
end Go.Proofs.YtdfbokmjipdolaaGreatDoor
