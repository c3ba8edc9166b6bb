/- The light parser's ParseFloat. -/
import Derived.Test.YtdfbokmjipdolaaGreatDoorE5
import Derived.Test.YtdfbokmjipdolaaGreatDoorE6
import Derived.Test.YtdfbokmjipdolaaGreatDoorQ17
import Derived.Test.YtdfbokmjipdolaaGreatDoorQ10
import Derived.Test.YtdfbokmjipdolaaGreatDoorQ11
import Derived.Deep.RegionHeld3
set_option linter.unusedVariables false
set_option linter.unusedSimpArgs false
namespace Go.Proofs.YtdfbokmjipdolaaGreatDoor
open Go.RowKit

theorem lnan50 (w : World) : Calls Tryz.prog 50 #[] w fun e w' => e = .returned (.float .f64 nanBits) ∧ w = w' := by
  go_enter Tryz.func50, Tryz.ntmps50
  go_wp2_with fail
  go_ret
  exact ⟨rfl, rfl⟩
theorem lread_len {t : List Nat} {R : List Nat × Int} (hl : t.length ≤ 400) (h : lread t = some R) : R.1.length ≤ 20000 := by
  obtain ⟨hd, e, he⟩ := lread_parts h
  obtain ⟨m1, m2, m3, m4⟩ := lF_facts t hl
  unfold lread at h
  rw [hd, if_pos rfl, he] at h
  injection h with h
  subst h
  cases hh : lhex t with
  | false =>
    rw [if_neg (by simp)]
    split
    · simp
    · have := ltrim_len (lF t).1.D
      simp only
      omega
  | true =>
    rw [hh] at m1
    rw [if_pos rfl]
    have hm := stk_lt _ (trOf true (lF t).1.D) (num16_lt (fun x hx => m1.dig x hx))
    obtain ⟨m, hme⟩ : ∃ m, m = stk (num 16 ((lF t).1.D.take 16)) (trOf true (lF t).1.D) := ⟨_, rfl⟩
    rw [← hme] at hm ⊢
    obtain ⟨x, hx⟩ : ∃ x, x = ((lF t).1.dp - (min 16 (lF t).1.D.length : Nat)) * 4 + e := ⟨_, rfl⟩
    rw [← hx]
    unfold lhexD
    by_cases h0 : m = 0 ∨ x < -1300
    · rw [if_pos h0]; simp
    · rw [if_neg h0]
      obtain ⟨a, b, c⟩ := dd_ok (by omega) hm
      by_cases h1 : x < 0
      · rw [if_pos h1]
        have := lDn_len ((-x).toNat + 1) (ltrim (dd m)) ((dd m).length : Int) (-x).toNat
        omega
      · rw [if_neg h1]
        have := (lUp_ok 100000000 ((min x 1100).toNat + 1) (ltrim (dd m)) (dd m).length (min x 1100).toNat a (by omega) (by omega)).len
        omega
theorem bits_any (w : World) (t : List Nat) (hl : t.length ≤ 400) (R : List Nat × Int) (hR : lread t = some R) (n0 b : Nat) (hn : n0 ≤ w.heap.size) (h : (R.1 = [] ∧ LE w b 0) ∨ (LOk R.1 ∧ ∃ B g cap, n0 ≤ B ∧ LD w B b g cap R.1 R.2)) :
    Calls Tryz.prog 56 #[.pointer (some ⟨b, 0, none⟩), .agg #[.int .i64 52, .int .i64 11, .int .i64 (-1023)]] w fun e w' => e = .returned (.tuple #[.int .u64 (lbits R.1 R.2).1, .bool (lbits R.1 R.2).2]) ∧ Below n0 w w' := by
  have hlen := lread_len hl hR
  rcases h with ⟨h1, h2⟩ | ⟨h1, B, g, cap, h2, h3⟩
  · refine (bitsW_nil w b 0 h2).mono ?_
    rintro e w' ⟨rfl, hb⟩
    rw [h1, lbits_nil]
    exact ⟨rfl, hb.mono hn⟩
  · by_cases hf : R.2 < -330 ∨ 310 < R.2
    · refine (bitsW_far w B b g cap R.1 R.2 h3 h1 hlen hf).mono ?_
      rintro e w' ⟨rfl, hb⟩
      exact ⟨rfl, hb.mono hn⟩
    · refine (bitsW_main w B b g cap R.1 R.2 h3 h1 hlen (by omega) (by omega)).mono ?_
      rintro e w' ⟨rfl, hb⟩
      exact ⟨rfl, hb.mono h2⟩
theorem read_any (s : ByteArray) (w : World) (hs : s.size ≤ 400) : Calls Tryz.prog 53 #[.string s] w (RDPost (bsN s) w) := by
  cases hx : lhex (bsN s) with
  | false => exact read_dec s w hs hx
  | true => exact read_hex s w hs hx
theorem sgn_or (neg : Bool) (b : Nat) (hb : b ≤ infPos) : bits BinOp.or IntKind.u64 (sgn neg : Int) (b : Int) = ((sgn neg + b : Nat) : Int) := by
  have h := sgn_lt neg
  have hi : infPos = 9218868437227405312 := rfl
  rw [bits_or_u64 (sgn neg) b (by omega) (by omega), or_disj (sgn neg) b neg rfl (by omega)]
theorem bv_or (neg : Bool) (b : Nat) (hb : b ≤ infPos) : (BitVec.ofNat 64 (sgn neg) ||| BitVec.ofNat 64 b).toNat % 18446744073709551616 = sgn neg + b := by
  have h := sgn_lt neg
  have hi : infPos = 9218868437227405312 := rfl
  rw [BitVec.toNat_or, BitVec.toNat_ofNat, BitVec.toNat_ofNat, Nat.mod_eq_of_lt (show sgn neg < 2 ^ 64 by omega), Nat.mod_eq_of_lt (show b < 2 ^ 64 by omega), or_disj (sgn neg) b neg rfl (by omega)]
  omega
theorem bv_inf (neg : Bool) : (BitVec.ofNat 64 (sgn neg) ||| BitVec.ofInt 64 (IntKind.u64.wrap (IntKind.u64.wrap (IntKind.u64.wrap 2048 - 1) * 4503599627370496))).toNat % 18446744073709551616 = sgn neg + infPos := by
  cases neg <;> kernel_rfl
theorem rfNeg_cons (c : Nat) (r : List Nat) : rfNeg (c :: r) = decide (c = 45) := by
  unfold rfNeg; rw [List.head?_cons, Bool.eq_iff_iff]; simp
theorem rfNeg_un {l : List Nat} (h : hasSign l = false) : rfNeg l = false := by
  cases l with
  | nil => rfl
  | cons c r => rw [hasSign_cons] at h; rw [rfNeg_cons]; simp at h ⊢; exact h.2
/-- the head of a text's sign -/
def lSg (s : ByteArray) : Bool := hasSign (bsN s)
set_option maxRecDepth 100000 in
set_option maxHeartbeats 1000000 in
theorem light_any : LC lb lok := by
  intro s w hs
  have Hnan := Lib.hid (fold_any s ⟨#[110, 97, 110]⟩ w hs (by decide))
  have hnb : bsN ⟨#[110, 97, 110]⟩ = nanL := by decide
  rw [hnb] at Hnan
  obtain ⟨NN, hNN⟩ : ∃ NN, NN = lnan (bsN s) := ⟨_, rfl⟩
  have hNN2 : foldB (bsN s) nanL = NN := by rw [hNN]; rfl
  rw [hNN2] at Hnan
  have HN := Lib.hid hNN
  clear hNN hNN2 hnb
  go_enter Tryz.func35, Tryz.ntmps35
  cases NN
  · go_upto_region 6 with (go_at_call 48; refine Hnan.out.mono ?_; rintro e w' ⟨rfl, rfl⟩)
    obtain ⟨SG, hSG⟩ : ∃ SG, SG = hasSign (bsN s) := ⟨_, rfl⟩
    have HSG := Lib.hid hSG
    clear hSG
    go_cut [33] (fun v w1 => v = .bool SG ∧ w1 = w)
    case first =>
      as_aux_lemma =>
        by_cases h0 : s.size = 0
        · have hb := bsN_nil h0
          have hse : s = ByteArray.empty := by apply bsN_inj; rw [hb]; rfl
          have Hb := Lib.hid hb
          subst hse
          go_wp2_with fail
          go_meet
          exact ⟨vb (by rw [HSG.out, Hb.out]; rfl), rfl⟩
        · have h1 : 0 < s.size := by omega
          obtain ⟨n1, n2⟩ := ne_list h1
          have hc := bsN_cons h1
          have Hc := Lib.hid hc
          clear hc
          go_wp2_with fail
          all_goals
            go_meet
            refine ⟨vb (by rw [HSG.out, Hc.out, hasSign_cons, Bool.eq_iff_iff]; simp [n2]; omega), rfl⟩
    case rest =>
      obtain ⟨rfl, rfl⟩ := hcut
      go_upto_if 33 with fail
      go_cut [6, 7] (fun s6 s7 wx => ∃ t : ByteArray, s6 = .string t ∧ s7 = .bool (rfNeg (bsN s)) ∧ Hid (bsN t = unsign (bsN s)) ∧ t.size ≤ 400 ∧ ∃ n, wx = wc.drewN n)
      case first =>
        as_aux_lemma =>
          cases SG
          · go_wp2_with fail
            go_meet
            exact ⟨s, rfl, vb (rfNeg_un HSG.out.symm).symm, Lib.hid (by rw [unsign_eq, ← HSG.out]; rfl), hs, 0, rfl⟩
          · have h1 : 1 ≤ s.size := by
              refine Decidable.byContradiction fun h => ?_
              have := HSG.out
              rw [bsN_nil (by omega)] at this; cases this
            have Hc := Lib.hid (bsN_cons (s := s) (by omega))
            have hix : ∀ W : World, (Instr.index 9 (.string s) (.int .i64 0)).run Tryz.prog W = .ok (.int .u8 (s[0]'(by omega)).toNat) W := fun W => by
              rw [run_index_string W 9 s .i64 0 Tryz.underlying9, dif_pos (by omega)]
              rfl
            have hsl : ∀ W : World, (Instr.slice 9 (.string s) (some (.int .i64 1)) none none).run Tryz.prog W = .ok (.string (s.extract 1 s.size)) W := fun W => run_slice_string_l W 9 s Tryz.underlying9 .i64 1 (by omega) (by omega)
            go_wp2_with fail
            go_region
            all_goals
              go_wp2_with fail
              go_meet
              exact ⟨_, rfl, vb (by rw [Hc.out, rfNeg_cons, Bool.eq_iff_iff]; simp; omega), Lib.hid (by rw [unsign_eq, ← HSG.out, bsN_extract]; simp), by simp; omega, _, rfl⟩
      case rest =>
        obtain ⟨t, rfl, rfl, Ht, hts, n0, rfl⟩ := hcut
        obtain ⟨NG, hNG⟩ : ∃ NG, NG = rfNeg (bsN s) := ⟨_, rfl⟩
        rw [← hNG]
        have HNG := Lib.hid hNG
        clear hNG
        obtain ⟨W0, hW0⟩ : ∃ W0, W0 = wc.drewN n0 := ⟨_, rfl⟩
        rw [← hW0]
        have HB0 := Lib.hid (show Below wc.heap.size wc W0 by rw [hW0]; exact ⟨rfl, rfl, rfl, Nat.le_refl _, fun _ _ => rfl⟩)
        clear hW0
        go_upto_if 41 with (go_at_call 51; refine (formOf_any _).mono ?_; rintro e w1 ⟨rfl, hb1⟩; have HB1 := Lib.hid (HB0.out.trans (hb1.mono HB0.out.size)); clear hb1)
        have HB2 := Lib.hid (HB1.out.alloc HB1.out.size (.cells #[.int .i64 52, .int .i64 11, .int .i64 (-1023)] 100))
        have HFm := Lib.hid (FormAt.alloc w1)
        obtain ⟨F, hF⟩ : ∃ F, F = w1.heap.size := ⟨_, rfl⟩
        have hFw : wc.heap.size ≤ F := by rw [hF]; exact HB1.out.size
        obtain ⟨W1, hW1⟩ : ∃ W1, W1 = w1.alloc (.cells #[.int .i64 52, .int .i64 11, .int .i64 (-1023)] 100) := ⟨_, rfl⟩
        have hFs : F < W1.heap.size := by rw [hF, hW1]; simp
        rw [← hF, ← hW1]
        rw [← hF, ← hW1] at HFm
        rw [← hW1] at HB2
        clear hF hW1 HB1
        have f0 := HFm.out.c0
        have f1 := HFm.out.c1
        have f2 := HFm.out.c2
        go_cut [9] (fun s9 wx => s9 = .int .u64 (sgn NG) ∧ wx = W1)
        case first =>
          as_aux_lemma =>
            cases NG
            · go_wp2_with fail
              go_meet
              exact ⟨rfl, rfl⟩
            · go_wp2_with fail
              go_meet
              exact ⟨rfl, rfl⟩
        case rest =>
          obtain ⟨rfl, hwe⟩ := hcut
          rw [hwe]
          clear hwe
          have Hf1 := Lib.hid (fold_any t ⟨#[105, 110, 102]⟩ W1 hts (by decide))
          have Hf2 := Lib.hid (fold_any t ⟨#[105, 110, 102, 105, 110, 105, 116, 121]⟩ W1 hts (by decide))
          have hb1 : bsN ⟨#[105, 110, 102]⟩ = [105, 110, 102] := by decide
          have hb2 : bsN ⟨#[105, 110, 102, 105, 110, 105, 116, 121]⟩ = infinityL := by decide
          rw [hb1] at Hf1
          rw [hb2] at Hf2
          obtain ⟨A, hA⟩ : ∃ A, A = foldB (bsN t) [105, 110, 102] := ⟨_, rfl⟩
          obtain ⟨B, hB⟩ : ∃ B, B = foldB (bsN t) infinityL := ⟨_, rfl⟩
          rw [← hA] at Hf1
          rw [← hB] at Hf2
          obtain ⟨LI, hLI⟩ : ∃ LI, LI = linf (bsN t) := ⟨_, rfl⟩
          have hL2 : LI = (A || B) := by rw [hLI, hA, hB]; rfl
          have HLI := Lib.hid hLI
          have HL2 := Lib.hid hL2
          clear hb1 hb2 hA hB hLI hL2
          go_upto_region 12 with fail
          go_cut [53] (fun v wx => v = .bool LI ∧ wx = W1)
          case first =>
            as_aux_lemma =>
              cases A
              · go_wp2_with fail
                refine Hf1.out.mono ?_
                rintro e w' ⟨rfl, rfl⟩
                go_wp2_with fail
                refine Hf2.out.mono ?_
                rintro e w' ⟨rfl, rfl⟩
                go_wp2_with fail
                go_meet
                exact ⟨vb (by rw [HL2.out]; rfl), rfl⟩
              · go_wp2_with fail
                refine Hf1.out.mono ?_
                rintro e w' ⟨rfl, rfl⟩
                go_wp2_with fail
                go_meet
                exact ⟨vb (by rw [HL2.out]; rfl), rfl⟩
          case rest =>
            obtain ⟨rfl, hwe⟩ := hcut
            rw [hwe]
            clear hwe Hf1 Hf2 HL2
            cases LI
            · have Hrd := Lib.hid (read_any t W1 hts)
              have hl1 : lnan (bsN s) = false := HN.out.symm
              have hl2 : linf (unsign (bsN s)) = false := by rw [← Ht.out]; exact HLI.out.symm
              have Hl1 := Lib.hid hl1
              have Hl2 := Lib.hid hl2
              have hlb : lb (bsN s) = match lread (bsN t) with
                  | none => 0
                  | some R => if uSc (bsN s) then sgn NG + (lbits R.1 R.2).1 else 0 := by
                unfold lb; rw [hl1, hl2, Ht.out, HNG.out]; rfl
              have hlk : lok (bsN s) ↔ ∃ R, lread (bsN t) = some R ∧ uSc (bsN s) = true ∧ (lbits R.1 R.2).2 = false := by
                unfold lok; rw [hl1, hl2, Ht.out]; simp
              have hlt400 : (bsN t).length ≤ 400 := by rw [bsN_len]; exact hts
              clear hl1 hl2
              cases hlr : lread (bsN t) with
              | none =>
                rw [hlr] at hlb hlk
                have Hlb := Lib.hid hlb
                have Hnk := Lib.hid (show ¬ lok (bsN s) by rw [hlk]; rintro ⟨R, h, _⟩; cases h)
                have Hrd2 := Lib.hid (show Calls Tryz.prog 53 #[.string t] W1 fun e w' => Below W1.heap.size W1 w' ∧ e = .returned (.tuple #[.pointer none, .bool false]) by
                  refine Hrd.out.mono ?_
                  rintro e w' ⟨h1, h2⟩
                  rw [hlr] at h2
                  exact ⟨h1, h2⟩)
                clear hlb hlk hlr Hrd
                go_wp2_with fail
                refine Hrd2.out.mono ?_
                rintro e w2 ⟨hb2, rfl⟩
                have HB3 := Lib.hid (HB2.out.trans (hb2.mono HB2.out.size))
                clear hb2
                go_wp2_with fail
                refine (fail_any _ _ _ _).mono ?_
                rintro e w3 ⟨⟨ty, u, rfl⟩, hb3⟩
                have HB4 := Lib.hid (HB3.out.trans (hb3.mono HB3.out.size))
                clear hb3
                go_wp2_with fail
                go_ret2
                exact ⟨HB4.out, .iface ty u, (show Ending.returned (.tuple #[.float .f64 0, .iface ty u]) = .returned (.tuple #[.float .f64 (lb (bsN s)), .iface ty u]) by rw [Hlb.out]), Or.inr ⟨⟨ty, u, rfl⟩, Hnk.out⟩⟩
              | some R =>
                rw [hlr] at hlb hlk
                have hlb2 : lb (bsN s) = if uSc (bsN s) then sgn NG + (lbits R.1 R.2).1 else 0 := hlb
                have hlk2 : lok (bsN s) ↔ (uSc (bsN s) = true ∧ (lbits R.1 R.2).2 = false) := by
                  rw [hlk]
                  constructor
                  · rintro ⟨R', h, h2, h3⟩; injection h with h; subst h; exact ⟨h2, h3⟩
                  · rintro ⟨h2, h3⟩; exact ⟨R, rfl, h2, h3⟩
                have hbl := lbits_le (bsN t) hlt400 R hlr
                have Hbits := Lib.hid (fun W b n0 hn h => bits_any W (bsN t) hlt400 R hlr n0 b hn h)
                have Hrd2 := Lib.hid (show Calls Tryz.prog 53 #[.string t] W1 fun e w' => Below W1.heap.size W1 w' ∧ ∃ b, e = .returned (.tuple #[.pointer (some ⟨b, 0, none⟩), .bool true]) ∧ ((R.1 = [] ∧ LE w' b 0) ∨ (LOk R.1 ∧ ∃ B g cap, W1.heap.size ≤ B ∧ LD w' B b g cap R.1 R.2)) by
                  refine Hrd.out.mono ?_
                  rintro e w' ⟨h1, h2⟩
                  rw [hlr] at h2
                  obtain ⟨b, _, h3, h4⟩ := h2
                  exact ⟨h1, b, h3, h4⟩)
                obtain ⟨bb, hbb⟩ : ∃ bb, bb = (lbits R.1 R.2).1 := ⟨_, rfl⟩
                obtain ⟨ov, hov⟩ : ∃ ov, ov = (lbits R.1 R.2).2 := ⟨_, rfl⟩
                rw [← hbb] at hlb2 hbl Hbits
                rw [← hov] at hlk2 Hbits
                obtain ⟨US, hUS⟩ : ∃ US, US = uSc (bsN s) := ⟨_, rfl⟩
                rw [← hUS] at hlb2 hlk2
                have HUS := Lib.hid hUS
                have Hlb := Lib.hid hlb2
                have Hlk := Lib.hid hlk2
                clear hlb hlk hlr Hrd hlb2 hlk2 hbb hov hUS
                go_wp2_with fail
                refine Hrd2.out.mono ?_
                rintro e w2 ⟨hb2, b, rfl, hcase⟩
                have HB3 := Lib.hid (HB2.out.trans (hb2.mono HB2.out.size))
                have HFm2 := Lib.hid (show FormAt w2 F from ⟨(hb2.cell (show F < _ from hFs)).trans f0, (hb2.cell (show F < _ from hFs)).trans f1, (hb2.cell (show F < _ from hFs)).trans f2⟩)
                have hsz2 := hb2.size
                have Hcase := Lib.hid hcase
                have Hun := Lib.hid (unders_any s w2 hs)
                rw [← HUS.out] at Hun
                clear hb2 hcase f0 f1 f2
                cases US
                · go_wp2_with fail
                  refine Hun.out.mono ?_
                  rintro e w' ⟨rfl, rfl⟩
                  go_wp2_with fail
                  refine (fail_any _ _ _ _).mono ?_
                  rintro e w3 ⟨⟨ty, u, rfl⟩, hb3⟩
                  have HB4 := Lib.hid (HB3.out.trans (hb3.mono HB3.out.size))
                  clear hb3
                  go_wp2_with fail
                  go_ret2
                  exact ⟨HB4.out, .iface ty u, (show Ending.returned (.tuple #[.float .f64 0, .iface ty u]) = .returned (.tuple #[.float .f64 (lb (bsN s)), .iface ty u]) by rw [Hlb.out]; rfl), Or.inr ⟨⟨ty, u, rfl⟩, fun h => by have := (Hlk.out.1 h).1; cases this⟩⟩
                · have f0 := HFm2.out.c0
                  have f1 := HFm2.out.c1
                  have f2 := HFm2.out.c2
                  have Hbc := Lib.hid (Hbits.out w2 b W1.heap.size hsz2 Hcase.out)
                  go_wp2_with fail
                  refine Hun.out.mono ?_
                  rintro e w' ⟨rfl, rfl⟩
                  go_wp2_with fail
                  refine Hbc.out.mono ?_
                  rintro e w3 ⟨rfl, hb3⟩
                  have HB4 := Lib.hid (HB3.out.trans (hb3.mono HB2.out.size))
                  have g0 := (hb3.cell (show F < _ from hFs)).trans f0
                  have g1 := (hb3.cell (show F < _ from hFs)).trans f1
                  have g2 := (hb3.cell (show F < _ from hFs)).trans f2
                  clear hb3 f0 f1 f2 Hbc Hcase
                  cases ov
                  · go_wp2_with fail
                    refine (float_any _ _).mono ?_
                    rintro e w4 ⟨rfl, hb4⟩
                    have HB5 := Lib.hid (HB4.out.trans (hb4.mono HB4.out.size))
                    clear hb4
                    go_wp2_with fail
                    go_ret2
                    refine ⟨HB5.out, .nilIface, ?_, Or.inl ⟨rfl, Hlk.out.2 (by simp)⟩⟩
                    have e1 : lb (bsN s) = sgn NG + bb := Hlb.out
                    rw [e1, ← bv_or NG bb hbl]
                    rfl
                  · go_wp2_with fail
                    refine (float_any _ _).mono ?_
                    rintro e w4 ⟨rfl, hb4⟩
                    have HB5 := Lib.hid (HB4.out.trans (hb4.mono HB4.out.size))
                    clear hb4
                    go_wp2_with fail
                    refine (fail_any _ _ _ _).mono ?_
                    rintro e w5 ⟨⟨ty, u, rfl⟩, hb5⟩
                    have HB6 := Lib.hid (HB5.out.trans (hb5.mono HB5.out.size))
                    clear hb5
                    go_wp2_with fail
                    go_ret2
                    refine ⟨HB6.out, .iface ty u, ?_, Or.inr ⟨⟨ty, u, rfl⟩, fun h => by have := (Hlk.out.1 h).2; cases this⟩⟩
                    have e1 : lb (bsN s) = sgn NG + bb := Hlb.out
                    rw [e1, ← bv_or NG bb hbl]
                    rfl
            · have ho : bits BinOp.or IntKind.u64 (sgn NG : Int) 9218868437227405312 = ((sgn NG + infPos : Nat) : Int) := sgn_or NG infPos (Nat.le_refl _)
              go_wp2_with fail
              go_region_held3 (fun w' => w'.cell? ⟨F, 0, none⟩ = some (.int .i64 52) ∧ w'.cell? ⟨F, 1, none⟩ = some (.int .i64 11) ∧ w'.cell? ⟨F, 2, none⟩ = some (.int .i64 (-1023))) (first | go_keep | exact ⟨(hb4.cell (show F < _ from hFs)).trans (by assumption), (hb4.cell (show F < _ from hFs)).trans (by assumption), (hb4.cell (show F < _ from hFs)).trans (by assumption)⟩)
                (first | (go_at_call 52; refine (float_any _ _).mono ?_; rintro e w2 ⟨rfl, hb4⟩))
              have HB5 := Lib.hid ((HB2.out.drew).trans (hb4.mono HB2.out.size))
              go_wp2_with fail
              go_ret2
              refine ⟨HB5.out, .nilIface, ?_, Or.inl ⟨rfl, Or.inr (Or.inl (by rw [← Ht.out]; exact HLI.out.symm))⟩⟩
              have e1 : lb (bsN s) = sgn NG + infPos := by unfold lb; rw [← HN.out, ← Ht.out, ← HLI.out, HNG.out]; rfl
              rw [e1, ← bv_inf]
              rfl
  · as_aux_lemma =>
      have e1 : lb (bsN s) = nanBits := by unfold lb; rw [← HN.out, if_pos rfl]
      have h2 : lok (bsN s) := Or.inl HN.out.symm
      have E1 := Lib.hid e1
      have H2 := Lib.hid h2
      clear e1 h2
      go_wp2_with (first | (go_at_call 48; refine Hnan.out.mono ?_; rintro e w' ⟨rfl, rfl⟩) | (go_at_call 50; refine (lnan50 _).mono ?_; rintro e w' ⟨rfl, rfl⟩))
      go_ret2
      exact ⟨Below.refl _ _, .nilIface, (show Ending.returned (.tuple #[.float .f64 nanBits, .nilIface]) = .returned (.tuple #[.float .f64 (lb (bsN s)), .nilIface]) by rw [E1.out]), Or.inl ⟨rfl, H2.out⟩⟩
end Go.Proofs.YtdfbokmjipdolaaGreatDoor
