/- atof64 of Go's own strconv: it errs exactly where the text is no number or its value is too large. -/
import Derived.Test.YtdfbokmjipdolaaGreatDoorC23
import Derived.Laws.Cover2
import Derived.Outline
set_option linter.unusedVariables false
set_option linter.unusedSimpArgs false
namespace Go.Proofs.YtdfbokmjipdolaaGreatDoor
open Go.RowKit

set_option maxRecDepth 100000 in
theorem readFloat_any (s : ByteArray) (w : World) (hs : s.size ≤ 400) : Calls Tryz.prog 67 #[.string s] w fun e w' => RFPost (bsN s) e ∧ w = w' := by
  by_cases h0 : 0 < s.size
  · cases hx : rfHex (bsN s)
    · exact readFloat_dec s w hs h0 hx
    · exact readFloat_hex s w hs h0 hx
  · have hz : s.size = 0 := by omega
    have hn : rf (bsN s) = none := by
      have : bsN s = [] := List.length_eq_zero_iff.1 (by rw [bsN_len]; exact hz)
      unfold rf; rw [if_pos this]
    have Hn := Lib.hid hn
    clear hn h0
    go_enter Tryz.func67, Tryz.ntmps67
    go_wp2_with fail
    go_step3
    go_wp2_with fail
    rw [Exit.noGoto_ret]
    exact bodyPost_ret (v := .tuple #[.int .u64 0, .int .i64 0, .bool false, .bool false, .bool false, .int .i64 0, .bool false]) (by simp [results, Tryz.results67, go_sem]) rfl ⟨RFPost.no Hn.out rfl, rfl⟩

theorem below_drewN (w : World) (n : Nat) : Below w.heap.size w (w.drewN n) := ⟨rfl, rfl, rfl, Nat.le_refl _, fun _ _ => rfl⟩
theorem zeroC : Tryz.zeroCells137 = dC zeroD 0 0 false false := by kernel_rfl
theorem below_wD {w W w1 : World} {B b : Nat} {t : TypeId} {d : Array Nat} {nd dp : Int} {ng tr : Bool} (h : Below B w W) (hb : B ≤ b) (hD : Dr W w1) : Below B w (wD w1 b t d nd dp ng tr) := by
  obtain ⟨q, rfl⟩ := hD
  refine ⟨h.os, h.tape, h.output, ?_, fun k hk => ?_⟩
  · show w.heap.size ≤ ((W.drewN q).heap.setIfInBounds b _).size
    rw [Array.size_setIfInBounds]
    exact h.size
  · show ((W.drewN q).heap.setIfInBounds b _)[k]? = _
    rw [Array.getElem?_setIfInBounds_ne (by omega)]
    exact h.block k hk
/-- equal floats: both infinite or none -/
theorem order_inf {x y : Nat} (h : Ieee.double.order x y = some .eq) (hx : x % 9223372036854775808 ≤ infPos) (hy : y % 9223372036854775808 ≤ infPos) : x % 9223372036854775808 = infPos ↔ y % 9223372036854775808 = infPos := by
  have key : ∀ b : Nat, b % 9223372036854775808 ≤ infPos → (b % 9223372036854775808 = infPos ∧ ∃ s, Ieee.double.read b = .infinity s) ∨ (b % 9223372036854775808 < infPos ∧ ∃ s m p, Ieee.double.read b = .number s m p) := by
    intro b hb
    unfold Ieee.Format.read
    rw [d_sw, d_inf, d_bin]
    dsimp only
    split
    · rename_i h; exact Or.inr ⟨by unfold infPos; omega, _, _, _, rfl⟩
    · split
      · rename_i h; exact Or.inr ⟨h, _, _, _, rfl⟩
      · split
        · rename_i h; exact Or.inl ⟨h, _, rfl⟩
        · rename_i h1 h2 h3; omega
  unfold Ieee.Format.order at h
  rcases key x hx with ⟨a, s, e⟩ | ⟨a, s, m, p, e⟩ <;> rcases key y hy with ⟨b, s', e'⟩ | ⟨b, s', m', p', e'⟩
  · exact ⟨fun _ => b, fun _ => a⟩
  · rw [e, e'] at h; cases s <;> simp [Ieee.Datum.order] at h
  · rw [e, e'] at h; cases s' <;> simp [Ieee.Datum.order] at h
  · constructor <;> intro h <;> omega
theorem PF.le {d : Nat} {p : Int} {b : Nat} {v : Value} (h : PF d p b v) : b % 9223372036854775808 ≤ infPos ∧ (b % 9223372036854775808 = infPos ↔ big d p) ∧ nan64 b = false := by
  rcases h with ⟨_, h1, h2⟩ | ⟨_, h1, h2⟩
  · exact ⟨by omega, by simp [h1, h2], by unfold nan64; simp; omega⟩
  · exact ⟨by omega, ⟨fun h => by omega, fun h => absurd h h2⟩, by unfold nan64; simp; omega⟩

theorem AT.spec {l : List Nat} {r : Bool × Nat} {b : Nat} (h : sp l = some r) (hb : nan64 b = r.1) : ATOk l b r.2 .nilIface := by unfold ATOk; rw [h]; exact ⟨rfl, rfl, hb⟩
theorem AT.syn {l : List Nat} {n : Int} (h : sp l = none) (h2 : rf l = none) : ATOk l 0 n (.iface 79 (.int .i64 2)) := by unfold ATOk; rw [h, h2]; exact ⟨rfl, rfl⟩
theorem AT.yes {l : List Nat} {r : RF} {b : Nat} {v : Value} (h : sp l = none) (h2 : rf l = some r) (hb : nan64 b = false) (hv : (v = .iface 79 (.int .i64 1) ∧ ATBig l r) ∨ (v = .nilIface ∧ ¬ ATBig l r)) : ATOk l b r.i v := by
  unfold ATOk; rw [h, h2]; exact ⟨rfl, hb, hv⟩
theorem or_zero (neg : Bool) : bits BinOp.or IntKind.u64 ((sgn neg : Nat) : Int) 0 = ((sgn neg : Nat) : Int) := by
  have h := bits_or_u64 (sgn neg) 0 (by have := sgn_lt neg; omega) (by decide)
  rw [Nat.or_zero] at h; exact h
theorem or_infs (neg : Bool) : bits BinOp.or IntKind.u64 ((sgn neg : Nat) : Int) 9218868437227405312 = ((sgn neg + infPos : Nat) : Int) := by
  have h := bits_or_u64 (sgn neg) 9218868437227405312 (by have := sgn_lt neg; omega) (by decide)
  rw [or_inf] at h; exact h
theorem sgn_nan (neg : Bool) : nan64 (sgn neg) = false ∧ nan64 (sgn neg + infPos) = false := by cases neg <;> decide
theorem sgn_shift (neg : Bool) : IntKind.u64.wrap (((b2n neg : Nat) : Int) * 9223372036854775808) = ((sgn neg : Nat) : Int) := by cases neg <;> decide

set_option maxRecDepth 100000 in
set_option maxHeartbeats 4000000 in
theorem atof64_any (s : ByteArray) (w : World) (hs : s.size ≤ 400) (hg : SG w) : Calls Tryz.prog 41 #[.string s] w (ATPost (bsN s) w) := by
  have Hg := Lib.hid hg
  obtain ⟨SP, hSP⟩ : ∃ SP, SP = sp (bsN s) := ⟨_, rfl⟩
  have HSP := Lib.hid hSP
  obtain ⟨R, hR⟩ : ∃ R, R = rf (bsN s) := ⟨_, rfl⟩
  have HR := Lib.hid hR
  have hsz : (bsN s).length ≤ 400 := by rw [bsN_len]; exact hs
  have c3 := hg.opt
  clear hg hSP hR
  have hsp := Lib.hid (special_any s w hs)
  have hrf := Lib.hid (readFloat_any s w hs)
  go_enter Tryz.func41, Tryz.ntmps41
  go_wp2_with fail
  refine hsp.out.mono ?_
  rintro e w' ⟨hpost, rfl⟩
  unfold SPPost at hpost
  rw [← HSP.out] at hpost
  cases SP with
  | some r =>
    obtain ⟨b, rfl, hb⟩ := hpost
    as_aux_lemma =>
      have Hb := Lib.hid hb
      clear hb
      go_wp2_with fail
      go_ret3
      exact ⟨Below.refl _ _, b, r.2, .nilIface, rfl, AT.spec HSP.out.symm Hb.out⟩
  | none =>
    dsimp only at hpost
    subst hpost
    go_wp2_with fail
    refine hrf.out.mono ?_
    rintro e w' ⟨hpost, rfl⟩
    unfold RFPost at hpost
    rw [← HR.out] at hpost
    cases R with
    | none =>
      obtain ⟨m, x, i, ng, tr, hx, rfl⟩ := hpost
      as_aux_lemma =>
        go_wp2_with fail
        go_ret3
        exact ⟨Below.refl _ _, 0, i, _, rfl, AT.syn HSP.out.symm HR.out.symm⟩
    | some r =>
      dsimp only at hpost
      subst hpost
      obtain ⟨f1, f2, f3, f4, f5, f6⟩ := rf_facts (bsN s) r HR.out.symm hsz
      have hi : r.i ≤ s.size := by rw [← bsN_len]; exact f4
      cases hh : rfHex (bsN s)
      · as_aux_lemma =>
          obtain ⟨_, t2, t3, t4, t5, t6, x, t7, t8⟩ := set_take (bsN s) r HR.out.symm hh
          have hok := rfFin_ok (bsN s)
          have hDl := rfFin_len (bsN s)
          rw [hh] at hok
          have hdig : ∀ x ∈ (rfFin (bsN s)).1.D, x < 10 := hok.dig
          have hlead := hok.lead
          obtain ⟨D, hD⟩ : ∃ D, D = (rfFin (bsN s)).1.D := ⟨_, rfl⟩
          obtain ⟨m, p, neg, tr, hex, i⟩ := r
          dsimp only at *
          subst t3
          have hB : ATBig (bsN s) ⟨m, p, neg, tr, false, i⟩ ↔ decBig D (p + (min 19 D.length : Nat)) := by unfold ATBig; rw [if_neg (by simp), ← hD]
          rw [← hD] at t4 t5 t8 hdig hlead hDl
          obtain ⟨_, _, _, c4⟩ := cut19 hdig
          obtain ⟨b1, b2, b3⟩ := decBig_cut (p := p) (x := p + (min 19 D.length : Nat)) hdig (by omega) (by omega) (by omega)
          rw [← t4] at c4 b1 b2 b3
          rw [← t5] at b3
          have hm0 : m = 0 → ¬ ATBig (bsN s) ⟨m, p, neg, tr, false, i⟩ := by
            intro h0
            rw [hB, (take_ne hdig hlead).1 (by rw [← t4]; exact h0)]
            exact decBig_nil
          have hDne : m ≠ 0 → D ≠ [] := by
            intro h h2
            apply h
            rw [t4, h2]; rfl
          rw [← hB] at b1 b2 b3
          have B1 := Lib.hid b1
          have B2 := Lib.hid b2
          have B3 := Lib.hid b3
          have HB := Lib.hid hB
          have T6 := Lib.hid (show (setF ((bsN s).take i)).1.D = D by rw [t6, ← hD])
          have T7 := Lib.hid t7
          have T8 := Lib.hid t8
          have Hm0 := Lib.hid hm0
          have HDne := Lib.hid hDne
          have HR' := Lib.hid (show rf (bsN s) = some ⟨m, p, neg, tr, false, i⟩ from HR.out.symm)
          have hDl2 : D.length ≤ 400 := by omega
          clear f3 f5 f6 t4 t5 t6 t7 t8 b1 b2 b3 hB hm0 hDne hok hlead hDl hD hh hdig HR
          go_upto_region 11 with fail
          go_cut [16] (fun v w1 => v = .int .u64 (sgn neg : Nat) ∧ w1 = w)
          case first =>
            as_aux_lemma =>
              cases neg
              · go_wp2_with (go_at_call 75; refine (bool2u64_any _ _).mono ?_; rintro e w' ⟨rfl, rfl⟩)
                go_meet
                exact ⟨rfl, rfl⟩
              · go_wp2_with (go_at_call 75; refine (bool2u64_any _ _).mono ?_; rintro e w' ⟨rfl, rfl⟩)
                go_meet
                exact ⟨rfl, rfl⟩
          case rest =>
            obtain ⟨rfl, rfl⟩ := hcut
            have hor := or_zero neg
            have hori := or_infs neg
            by_cases hm0 : m = 0
            · as_aux_lemma =>
                have hz : ¬ ATBig (bsN s) ⟨m, p, neg, tr, false, i⟩ := Hm0.out hm0
                have Hz := Lib.hid hz
                have q : ((m : Int) == 0) = true := by rw [beq_iff_eq]; omega
                clear hz hm0
                go_wp2_with fail
                go_ret3
                exact ⟨Below.refl _ _, sgn neg, i, .nilIface, by simp, AT.yes HSP.out.symm HR'.out (sgn_nan neg).1 (Or.inr ⟨rfl, Hz.out⟩)⟩
            · have q : ((m : Int) == 0) = false := by rw [beq_eq_false_iff_ne]; omega
              have hm1 : 1 ≤ m := by omega
              have HM0 := Lib.hid hm0
              clear hm0
              by_cases hp1 : 310 < p
              · as_aux_lemma =>
                  have Hz := Lib.hid (B1.out (big_hi hm1 hp1))
                  go_wp2_with fail
                  go_ret3
                  exact ⟨Below.refl _ _, sgn neg + infPos, i, _, by simp, AT.yes HSP.out.symm HR'.out (sgn_nan neg).2 (Or.inl ⟨rfl, Hz.out⟩)⟩
              · by_cases hp2 : p < -345
                · as_aux_lemma =>
                    have Hz := Lib.hid (show ¬ ATBig (bsN s) ⟨m, p, neg, tr, false, i⟩ from fun h => big_lo (by omega) (B2.out h))
                    go_wp2_with fail
                    go_ret3
                    exact ⟨Below.refl _ _, sgn neg, i, .nilIface, by simp, AT.yes HSP.out.symm HR'.out (sgn_nan neg).1 (Or.inr ⟨rfl, Hz.out⟩)⟩
                · cases tr
                  · as_aux_lemma =>
                      have Hiff := Lib.hid (show ATBig (bsN s) ⟨m, p, neg, false, false, i⟩ ↔ big m p from ⟨B3.out rfl, B1.out⟩)
                      have Hex := Lib.hid (exact_any m p neg wc (by omega) (by omega) (by omega) Hg.out.info.c0 Hg.out.f10)
                      have Hpf := Lib.hid (parse64_ok neg m p wc (by omega) (by omega) (by omega) (by omega) (by have := Hg.out.sz; omega) Hg.out.pow)
                      go_wp2_with fail
                      refine Hex.out.mono ?_
                      rintro e w' ⟨⟨b, ok, rfl, hbk⟩, rfl⟩
                      cases ok
                      · clear hbk
                        go_wp2_with fail
                        refine Hpf.out.mono ?_
                        rintro e w1 ⟨b1, v1, rfl, hpf, hbel⟩
                        have HPF := Lib.hid hpf
                        have Hbel := Lib.hid hbel
                        clear hpf hbel
                        go_wp2_with fail
                        go_ret3
                        exact ⟨Hbel.out, b1, i, v1, rfl, AT.yes HSP.out.symm HR'.out HPF.out.le.2.2 (by
                          rw [Hiff.out]
                          rcases HPF.out with ⟨a, _, c⟩ | ⟨a, _, c⟩
                          · exact Or.inl ⟨a, c⟩
                          · exact Or.inr ⟨a, c⟩)⟩
                      · obtain ⟨k1, k2, k3⟩ := hbk rfl
                        have K1 := Lib.hid k1
                        clear k1 hbk
                        go_wp2_with fail
                        go_ret3
                        exact ⟨Below.refl _ _, b, i, .nilIface, rfl, AT.yes HSP.out.symm HR'.out K1.out (Or.inr ⟨rfl, by
                          rw [Hiff.out]
                          intro hbig
                          have h1 := (over_iff m p (by omega) (by omega) (by omega) (by omega)).2 hbig
                          exact over_low m p (by omega) (by omega) (by omega) (by omega) h1⟩)⟩
                  · as_aux_lemma =>
                      have Hpf := Lib.hid (parse64_ok neg m p wc (by omega) (by omega) (by omega) (by omega) (by have := Hg.out.sz; omega) Hg.out.pow)
                      go_wp2_with fail
                      refine Hpf.out.mono ?_
                      rintro e w1 ⟨b1, v1, rfl, hpf, hbel⟩
                      have HPF := Lib.hid hpf
                      have Hbel := Lib.hid hbel
                      have Hg1 := Lib.hid (Hg.out.later hbel)
                      clear hpf hbel
                      have Hpf2 := Lib.hid (parse64_ok neg (m + 1) p w1 (by omega) (by omega) (by omega) (by omega) (by have := Hg1.out.sz; omega) Hg1.out.pow)
                      go_wp2_with fail
                      refine Hpf2.out.mono ?_
                      rintro e w2 ⟨b2, v2, rfl, hpf, hbel⟩
                      have HPF2 := Lib.hid hpf
                      have Hbel2 := Lib.hid (Hbel.out.trans (hbel.mono Hbel.out.size))
                      have Hg2 := Lib.hid (Hg1.out.later hbel)
                      clear hpf hbel
                      by_cases hq : (FloatKind.f64.format.order b1 b2 == some Ordering.eq) = true
                      · as_aux_lemma =>
                          have ho := order_inf (x := b1) (y := b2) (beq_iff_eq.1 hq) HPF.out.le.1 HPF2.out.le.1
                          have Hiff := Lib.hid (show ATBig (bsN s) ⟨m, p, neg, true, false, i⟩ ↔ big m p from ⟨fun h => by
                            have h2 := B2.out h
                            rw [← HPF2.out.le.2.1, ← ho, HPF.out.le.2.1] at h2
                            exact h2, B1.out⟩)
                          clear ho
                          go_wp2_with fail
                          go_ret3
                          exact ⟨Hbel2.out, b1, i, v1, rfl, AT.yes HSP.out.symm HR'.out HPF.out.le.2.2 (by
                            rw [Hiff.out]
                            rcases HPF.out with ⟨a, _, c⟩ | ⟨a, _, c⟩
                            · exact Or.inl ⟨a, c⟩
                            · exact Or.inr ⟨a, c⟩)⟩
                      · have hq2 : (FloatKind.f64.format.order b1 b2 == some Ordering.eq) = false := by simpa using hq
                        clear hq
                        go_wp2_with fail
                        obtain ⟨W, hW⟩ : ∃ W, W = w2.alloc (Obj.cells Tryz.zeroCells137 137) := ⟨_, rfl⟩
                        rw [← hW]
                        have hbW : w2.heap.size < W.heap.size := by rw [hW]; simp
                        have hWD : wD W w2.heap.size 137 zeroD 0 0 false false = W := by rw [hW, zeroC]; exact (alloc_wD w2 zeroD 0 0 false false 137).symm
                        have hBW : Below w2.heap.size w2 W := by rw [hW]; exact (Below.refl _ _).alloc (Nat.le_refl _) _
                        have HBW := Lib.hid hBW
                        have hext : (s.extract 0 i).size = i := by simp; omega
                        have hset := set_any (s.extract 0 i) W w2.heap.size 137 zeroD false false (by omega) (by omega) hbW (by simp [zeroD])
                        rw [hWD] at hset
                        have Hset := Lib.hid hset
                        have HWD := Lib.hid hWD
                        clear hW hWD hset hBW hext
                        have h16 : 17 ≤ w2.heap.size := Hg2.out.sz
                        refine Hset.out.mono ?_
                        rintro e w' ⟨ok, w3, d3, n3, dp3, ng3, tr3, rfl, hDr, rfl, hd3, hn3, hm3⟩
                        rw [bsN_take, T7.out] at hm3
                        obtain ⟨rfl, rfl, hS⟩ := hm3
                        rw [T6.out] at hS
                        have hDN := hS.dn hd3 (HDne.out HM0.out) hn3
                        have hpx := T8.out HM0.out
                        have hb3 : w2.heap.size < w3.heap.size := by rw [hDr.size]; exact hbW
                        have hcell : ∀ a v, w2.cell? a = some v → w3.cell? a = some v := fun a v h => by rw [hDr.cell]; exact cell_later HBW.out h
                        have hB3 : Below w2.heap.size w2 w3 := by obtain ⟨q, rfl⟩ := hDr; exact HBW.out.trans ⟨rfl, rfl, rfl, Nat.le_refl _, fun _ _ => rfl⟩
                        have Hfb := Lib.hid (fbits_any w3 w2.heap.size 137 d3 n3 dp3 ng3 tr3 hb3 hDN (by omega) (by omega) (by omega) (Hg2.out.info.later hB3) (Hg2.out.lc.at' (Nat.le_refl _) (by omega) hcell) (Hg2.out.pw.at' (Nat.le_refl _) (by omega) hcell))
                        have hbs := bigS_dec hS hn3 (x := dp3) (by omega)
                        have Hbs := Lib.hid (show bigS (sv d3 n3 dp3) ↔ ATBig (bsN s) ⟨m, p, neg, true, false, i⟩ by
                          rw [hbs, HB.out, show p + (min 19 D.length : Nat) = dp3 by omega])
                        have HB3 := Lib.hid hB3
                        clear hS hDN hpx hcell hbs hB3 hDr hd3 hn3
                        go_wp2_with fail
                        refine Hfb.out.mono ?_
                        rintro e w' ⟨B, ov, w4, d4, n4, dp4, tr4, rfl, hnB, hB64, hov, hDr4, _, rfl⟩
                        have HnB := Lib.hid hnB
                        have Hov := Lib.hid hov
                        have HB4 := Lib.hid (below_wD (t := 137) (d := d4) (nd := n4) (dp := dp4) (ng := ng3) (tr := tr4) HB3.out (Nat.le_refl _) hDr4)
                        clear hnB hov hDr4
                        have hfin : Below wc.heap.size wc (wD w4 w2.heap.size 137 d4 n4 dp4 ng3 tr4) := Hbel2.out.trans (HB4.out.mono Hbel2.out.size)
                        have Hfin := Lib.hid hfin
                        clear hfin
                        cases ov
                        · as_aux_lemma =>
                            go_wp2_with fail
                            go_ret3
                            exact ⟨Hfin.out, B, i, .nilIface, by simp, AT.yes HSP.out.symm HR'.out HnB.out (Or.inr ⟨rfl, fun h => by have := Hov.out.2 (Hbs.out.2 h); cases this⟩)⟩
                        · as_aux_lemma =>
                            go_wp2_with fail
                            go_ret3
                            exact ⟨Hfin.out, B, i, _, by simp, AT.yes HSP.out.symm HR'.out HnB.out (Or.inl ⟨rfl, Hbs.out.1 (Hov.out.1 trivial)⟩)⟩
      · as_aux_lemma =>
          obtain ⟨g1, g2⟩ := rf_hexFacts (bsN s) r HR.out.symm hsz hh
          rw [hh] at f3
          have Hc := Lib.hid (hex_any (s.extract 0 r.i) r.mant r.exp r.neg r.tr w g1 (by omega) (by omega) Hg.out.info g2)
          have Hf3 := Lib.hid f3
          have hx : r.hex = true := f3
          clear f3 f5 f6 g1 g2 hh c3
          have hB : ATBig (bsN s) r ↔ bigX (stk r.mant r.tr) r.exp := by unfold ATBig; rw [if_pos hx]
          have HB := Lib.hid hB
          clear hB
          go_wp2_with fail
          refine Hc.out.mono ?_
          rintro e w' ⟨⟨b, v, rfl, hb, hv⟩, nq, rfl⟩
          have Hb := Lib.hid hb
          have Hv := Lib.hid hv
          clear hb hv
          go_wp2_with fail
          go_ret3
          exact ⟨below_drewN w nq, b, r.i, v, rfl, AT.yes HSP.out.symm HR.out.symm Hb.out (by rw [HB.out]; exact Hv.out)⟩
end Go.Proofs.YtdfbokmjipdolaaGreatDoor
