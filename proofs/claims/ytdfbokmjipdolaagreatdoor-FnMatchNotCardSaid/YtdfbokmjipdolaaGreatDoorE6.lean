/- The light parser's read: a text with the mark of hexadecimal. -/
import Derived.Test.YtdfbokmjipdolaaGreatDoorE6E
import Derived.Outline
set_option linter.unusedVariables false
set_option linter.unusedSimpArgs false
namespace Go.Proofs.YtdfbokmjipdolaaGreatDoor
open Go.RowKit

/-- the light read's loop over hexadecimal digits, beside the run -/
structure HL (L : List Nat) (FIN : MS × List Nat) (k : Nat) (st : MS) (m : Nat) (x : Int) : Prop where
  run : mRun true (L.drop k) st = FIN
  em : m = stk (num 16 (st.D.take 16)) (trOf true st.D)
  ex : x = (st.dp - (min 16 st.D.length : Nat)) * 4
  ok : MSOk true st
  len : st.D.length ≤ k
  lo : -(k : Int) ≤ st.dp
  hi : st.dp ≤ k
section
variable {L : List Nat} {FIN : MS × List Nat} {k : Nat} {st : MS} {m : Nat} {x : Int}
theorem HL.start (L : List Nat) : HL L (mRun true L .start) 0 .start 0 0 :=
  ⟨rfl, rfl, rfl, start_ok true, Nat.le_refl _, by simp [MS.start], by simp [MS.start]⟩
theorem stk_le (m : Nat) (tr : Bool) : m ≤ stk m tr := by unfold stk; split; exact Nat.left_le_or; exact Nat.le_refl _
theorem HL.b (h : HL L FIN k st m x) : (st.D.length < 16 → m ≤ 1152921504606846975) ∧ (16 ≤ st.D.length → 1152921504606846976 ≤ m) ∧ m < 18446744073709551616 ∧ -4 * ((k : Int) + 16) ≤ x ∧ x ≤ 4 * (k : Int) := by
  have hd := h.ok.dig
  have hl := h.ok.lead
  have e16 : bse true = 16 := rfl
  rw [e16] at hd
  have hlt := num_lt 16 (by decide) (st.D.take 16) (fun x hx => hd x (List.mem_of_mem_take hx))
  have hlen : (st.D.take 16).length = min 16 st.D.length := List.length_take
  have hlo := h.lo
  have hhi := h.hi
  refine ⟨fun h1 => ?_, fun h1 => ?_, ?_, by rw [h.ex]; omega, by rw [h.ex]; omega⟩
  · have ht : trOf true st.D = false := by unfold trOf; rw [show mx true = 16 from rfl, List.drop_eq_nil_of_le (by omega)]; rfl
    rw [h.em, ht]
    have : 16 ^ (st.D.take 16).length ≤ 16 ^ 15 := Nat.pow_le_pow_right (by decide) (by omega)
    show num 16 (st.D.take 16) ≤ _
    omega
  · rw [h.em]
    refine Nat.le_trans ?_ (stk_le _ _)
    cases hD : st.D with
    | nil => rw [hD] at h1; cases h1
    | cons y t =>
      rw [hD] at h1 hl
      have hy : y ≠ 0 := by simpa using hl
      rw [List.take_succ_cons, num_cons]
      have h3 : (t.take 15).length = 15 := by rw [List.length_take]; simp at h1; omega
      rw [h3]
      have e60 : (1152921504606846976 : Nat) = 16 ^ 15 := by decide
      rw [e60]
      exact Nat.le_trans (Nat.le_mul_of_pos_left _ (Nat.pos_of_ne_zero hy)) (Nat.le_add_right _ _)
  · rw [h.em]
    have h2 : 16 ^ (st.D.take 16).length ≤ 16 ^ 16 := Nat.pow_le_pow_right (by decide) (by omega)
    unfold stk
    split
    · exact Nat.or_lt_two_pow (n := 64) (by omega) (by decide)
    · omega
theorem HL.under (h : HL L FIN k st m x) (c : Nat) (hd : L.drop k = c :: L.drop (k + 1)) (hc : c = 95) : HL L FIN (k + 1) { st with us := true } m x :=
  ⟨run_step hd rfl h.run (by simp [mStep, hc]), h.em, h.ex, ⟨h.ok.dig, h.ok.lead⟩, by have := h.len; simp only; omega, by have := h.lo; simp only; omega, by have := h.hi; simp only; omega⟩
theorem HL.point (h : HL L FIN k st m x) (c : Nat) (hd : L.drop k = c :: L.drop (k + 1)) (hc : c = 46) (hdot : st.dot = false) : HL L FIN (k + 1) { st with dot := true } m x :=
  ⟨run_step hd rfl h.run (by simp [mStep, hc, hdot]), h.em, h.ex, ⟨h.ok.dig, h.ok.lead⟩, by have := h.len; simp only; omega, by have := h.lo; simp only; omega, by have := h.hi; simp only; omega⟩
theorem HL.dig (h : HL L FIN k st m x) (c d : Nat) (hd : L.drop k = c :: L.drop (k + 1)) (h95 : c ≠ 95) (h46 : c ≠ 46) (hdig : digOf true c = some d) :
    HL L FIN (k + 1) (st.digit d) (if st.D.length < 16 then m * 16 + d else if d = 0 then m else m ||| 1) (if st.D.length < 16 then (if st.dot then x - 4 else x) else (if st.dot then x else x + 4)) := by
  have hs : mStep true c st = some (st.digit d) := by simp [mStep, h95, h46, hdig]
  have hrun := run_step hd rfl h.run hs
  have hok := mStep_ok h.ok hs
  have h1 := h.len
  have h2 := h.lo
  have h3 := h.hi
  have hex := h.ex
  have hem := h.em
  by_cases hz : st.D = [] ∧ d = 0
  · have e : st.digit d = { st with digs := true, dp := if st.dot then st.dp - 1 else st.dp } := by unfold MS.digit; rw [if_pos hz]
    rw [e] at hrun hok ⊢
    obtain ⟨hD, hd0⟩ := hz
    have hl0 : st.D.length = 0 := by rw [hD]; rfl
    rw [if_pos (show st.D.length < 16 by omega), if_pos (show st.D.length < 16 by omega)]
    have hm0 : m = 0 := by rw [hem, hD]; rfl
    refine ⟨hrun, ?_, ?_, hok, by simp only; omega, ?_, ?_⟩
    · simp only; rw [← hem]; omega
    · simp only; rw [hex]; split <;> omega
    · simp only; split <;> omega
    · simp only; split <;> omega
  · have e : st.digit d = { st with D := st.D ++ [d], digs := true, dp := if st.dot then st.dp else st.dp + 1 } := by unfold MS.digit; rw [if_neg hz]
    rw [e] at hrun hok ⊢
    have hmx : mx true = 16 := rfl
    by_cases hl : st.D.length < 16
    · rw [if_pos hl, if_pos hl]
      have ht : trOf true st.D = false := by unfold trOf; rw [hmx, List.drop_eq_nil_of_le (by omega)]; rfl
      have ht2 : trOf true (st.D ++ [d]) = false := by unfold trOf; rw [hmx, List.drop_eq_nil_of_le (by simp; omega)]; rfl
      refine ⟨hrun, ?_, ?_, hok, by simp only [List.length_append, List.length_cons, List.length_nil]; omega, ?_, ?_⟩
      · simp only
        rw [ht2, List.take_of_length_le (by simp; omega), num_snoc, hem, ht, List.take_of_length_le (by omega)]
        rfl
      · simp only [List.length_append, List.length_cons, List.length_nil]; rw [hex]; split <;> omega
      · simp only; split <;> omega
      · simp only; split <;> omega
    · rw [if_neg hl, if_neg hl]
      refine ⟨hrun, ?_, ?_, hok, by simp only [List.length_append, List.length_cons, List.length_nil]; omega, ?_, ?_⟩
      · simp only
        have ht2 : trOf true (st.D ++ [d]) = (trOf true st.D || d != 0) := by
          unfold trOf; rw [hmx, List.drop_append_of_le_length (by omega), List.any_append]; simp
        rw [ht2, List.take_append_of_le_length (by omega), hem]
        by_cases h0 : d = 0
        · rw [if_pos h0, h0]; simp
        · rw [if_neg h0]
          have : (d != 0) = true := by rw [bne_iff_ne]; exact h0
          rw [this, Bool.or_true]
          unfold stk
          cases trOf true st.D
          · rfl
          · simp only [if_true]
            rw [Nat.or_assoc, Nat.or_self]
      · simp only [List.length_append, List.length_cons, List.length_nil]; rw [hex]; split <;> omega
      · simp only; split <;> omega
      · simp only; split <;> omega
theorem HL.stop (h : HL L FIN k st m x) (c : Nat) (hd : L.drop k = c :: L.drop (k + 1)) (hs : mStep true c st = none) : FIN = (st, L.drop k) := by
  have e := h.run
  rw [hd, mRun_stop true c _ st hs, ← hd] at e
  exact e.symm
theorem HL.done (h : HL L FIN k st m x) (hd : L.drop k = []) : FIN = (st, L.drop k) := by
  have e := h.run
  rw [hd, mRun_end] at e
  rw [hd]; exact e.symm
end
theorem dd_ok {m : Nat} (h0 : 0 < m) (hm : m < 18446744073709551616) : LOk (ltrim (dd m)) ∧ (ltrim (dd m)).length ≤ 20 ∧ (dd m).length ≤ 20 := by
  have hlen := ddF_len 19 m
  have hlen2 : (dd m).length ≤ 20 := hlen.1
  have hlt := ltrim_len (dd m)
  exact ⟨ltrim_ok (ddF_dig 19 m) (ddF_lead 19 m (by omega) h0) (fun h => by have h2 := hlen.2; have h3 : (dd m).length = (ddF 19 m).length := rfl; rw [h] at h3; simp at h3; omega), by omega, hlen2⟩
theorem lhex_dn {m k : Nat} (h0 : 0 < m) (hm : m < 18446744073709551616) (hk0 : 0 < k) (hk : k ≤ 1300) : lhexD m (-(k : Int)) = ((lDn (k + 1) (ltrim (dd m)) (dd m).length k).1, (lDn (k + 1) (ltrim (dd m)) (dd m).length k).2) ∧ LOk (lDn (k + 1) (ltrim (dd m)) (dd m).length k).1 := by
  obtain ⟨a, b, c⟩ := dd_ok h0 hm
  have e : (- -(k : Int)).toNat = k := by omega
  unfold lhexD
  rw [if_neg (by omega), if_pos (by omega), e]
  exact ⟨(Prod.eta _).symm, (lDn_ok 100000000 (k + 1) (ltrim (dd m)) (dd m).length k a (by omega) (by omega)).ok⟩
theorem lhex_up {m k : Nat} (h0 : 0 < m) (hm : m < 18446744073709551616) (hk : k ≤ 1100) : lhexD m (k : Int) = ((lUp (k + 1) (ltrim (dd m)) (dd m).length k).1, (lUp (k + 1) (ltrim (dd m)) (dd m).length k).2) ∧ LOk (lUp (k + 1) (ltrim (dd m)) (dd m).length k).1 := by
  obtain ⟨a, b, c⟩ := dd_ok h0 hm
  have e : (min (k : Int) 1100).toNat = k := by omega
  unfold lhexD
  rw [if_neg (by omega), if_neg (by omega), e]
  exact ⟨(Prod.eta _).symm, (lUp_ok 100000000 (k + 1) (ltrim (dd m)) (dd m).length k a (by omega) (by omega)).ok⟩
theorem lhex_top {m : Nat} {X : Int} (h0 : 0 < m) (hm : m < 18446744073709551616) (hX : 1100 < X) : lhexD m X = ((lUp 1101 (ltrim (dd m)) (dd m).length 1100).1, (lUp 1101 (ltrim (dd m)) (dd m).length 1100).2) ∧ LOk (lUp 1101 (ltrim (dd m)) (dd m).length 1100).1 := by
  obtain ⟨a, b, c⟩ := dd_ok h0 hm
  have e : (min X 1100).toNat = 1100 := by omega
  unfold lhexD
  rw [if_neg (by omega), if_neg (by omega), e]
  exact ⟨(Prod.eta _).symm, (lUp_ok 100000000 1101 (ltrim (dd m)) (dd m).length 1100 a (by omega) (by omega)).ok⟩
theorem lw_small : ∀ c < 58, lw c < 97 := by decide
theorem digit_eq (D : List Nat) (dp : Int) (dot digs us : Bool) (d : Nat) : (MS.digit ⟨D, dp, dot, digs, us⟩ d).digs = true ∧ (MS.digit ⟨D, dp, dot, digs, us⟩ d).dot = dot := by
  unfold MS.digit; split <;> exact ⟨rfl, rfl⟩
theorem or_dig (m d : Nat) (hm : m ≤ 1152921504606846975) (hd : d < 16) : bits BinOp.or IntKind.u64 ((m : Int) * 16) (d : Int) = ((m * 16 + d : Nat) : Int) := by
  have h := bits_or_u64 (m * 16) d (by omega) (by omega)
  have e : m * 16 ||| d = m * 16 + d := by
    have := Nat.two_pow_add_eq_or_of_lt (b := d) (i := 4) (by omega) m
    have e2 : 2 ^ 4 * m = m * 16 := by omega
    rw [e2] at this
    exact this.symm
  rw [e] at h
  rw [← h]
  congr 1
theorem wrap_16 (m : Nat) (hm : m ≤ 1152921504606846975) : IntKind.u64.wrap ((m : Int) * 16) = (m : Int) * 16 := IntWalk.u64_in _ (by omega)
theorem or_bit (n : Nat) (h : n < 18446744073709551616) : bits BinOp.or IntKind.u64 (n : Int) 1 = ((n ||| 1 : Nat) : Int) := bits_or_u64 n 1 (by omega) (by decide)
/-- the loop's end -/
def HEnd (t : ByteArray) (FIN : MS × List Nat) (s7 s8 s10 s11 : Value) : Prop :=
  ∃ (k m : Nat) (x : Int), s7 = .int .u64 m ∧ s8 = .bool FIN.1.digs ∧ s10 = .int .i64 x ∧ s11 = .int .i64 k ∧ k ≤ t.size ∧ FIN.2 = (bsN t).drop k ∧ m = stk (num 16 (FIN.1.D.take 16)) (trOf true FIN.1.D) ∧ x = (FIN.1.dp - (min 16 FIN.1.D.length : Nat)) * 4
theorem HL.fin {t : ByteArray} {FIN : MS × List Nat} {k m : Nat} {st : MS} {x : Int} (h : HL (bsN t) FIN k st m x) (hk : k ≤ t.size) (hF : FIN = (st, (bsN t).drop k)) : HEnd t FIN (.int .u64 m) (.bool st.digs) (.int .i64 x) (.int .i64 k) := by
  subst hF
  exact ⟨k, m, x, rfl, rfl, rfl, rfl, hk, rfl, h.em, h.ex⟩

set_option maxRecDepth 100000 in
set_option maxHeartbeats 8000000 in
theorem read_hex (s : ByteArray) (w : World) (hs : s.size ≤ 400) (hx : lhex (bsN s) = true) : Calls Tryz.prog 53 #[.string s] w (RDPost (bsN s) w) := by
  have hF : lF (bsN s) = mRun true ((bsN s).drop 2) .start := by unfold lF lbody; rw [hx]; rfl
  obtain ⟨FIN, hFe⟩ : ∃ FIN, FIN = lF (bsN s) := ⟨_, rfl⟩
  have HFe := Lib.hid hFe
  rw [← hFe] at hF
  have HF := Lib.hid hF
  have h2s : 2 ≤ s.size := by
    refine Decidable.byContradiction fun h => ?_
    rw [lhex_short (by omega)] at hx; cases hx
  have hxx := hx
  rw [lhex_long h2s] at hxx
  simp only [Bool.and_eq_true, decide_eq_true_eq] at hxx
  obtain ⟨x0, x1⟩ := hxx
  have y0 : (s[0].toNat : Int) = 48 := by omega
  have y1 : (lw s[1].toNat : Int) = 120 := by omega
  have HX := Lib.hid hx
  clear hx hFe hF x0 x1
  go_enter Tryz.func53, Tryz.ntmps53
  go_upto_region 2 with fail
  go_cut [5] (fun v w1 => v = .bool true ∧ w1 = w.alloc (.cells #[.slice none 0 0, .int .i64 0] 157))
  case first =>
    as_aux_lemma =>
      go_wp2_with (go_at_call 85; refine (lower85_any _ _ (UInt8.toNat_lt _)).mono ?_; rintro e w' ⟨rfl, rfl⟩)
      all_goals
        go_meet
        exact ⟨rfl, rfl⟩
  case rest =>
    obtain ⟨rfl, rfl⟩ := hcut
    go_upto_if 31 with fail
    go_cut [0, 6] (fun s0 s6 wx => ∃ t : ByteArray, s0 = .string t ∧ s6 = .int .u8 112 ∧ Hid (bsN t = (bsN s).drop 2) ∧ t.size ≤ 400 ∧ wx = w.alloc (.cells #[.slice none 0 0, .int .i64 0] 157))
    case first =>
      as_aux_lemma =>
        go_wp2_with fail
        go_meet
        exact ⟨_, rfl, rfl, Lib.hid (bsN_extract s 2), by simp; omega, rfl⟩
    case rest =>
      obtain ⟨t, rfl, rfl, Ht, hts, rfl⟩ := hcut
      have HFt := Lib.hid (show FIN = mRun true (bsN t) .start by rw [Ht.out]; exact HF.out)
      have HB0 : Below w.heap.size w (w.alloc (.cells #[.slice none 0 0, .int .i64 0] 157)) := (Below.refl _ _).alloc (Nat.le_refl _) _
      obtain ⟨W0, hW0⟩ : ∃ W0, W0 = w.alloc (.cells #[.slice none 0 0, .int .i64 0] 157) := ⟨_, rfl⟩
      rw [← hW0] at HB0 ⊢
      have HBel := Lib.hid HB0
      clear HB0 hW0
      go_upto_block 0 with fail
      go_cut [7, 8, 9, 10, 11] (fun s7 s8 s9 s10 s11 wx => HEnd t FIN s7 s8 s10 s11 ∧ wx = W0)
      case first =>
        go_wp2_with fail
        go_loopg [7, 8, 9, 10, 11] t.size (fun g s7 s8 s9 s10 s11 wx => ∃ (k : Nat) (st : MS) (m : Nat) (x : Int), g = t.size - k ∧ k ≤ t.size ∧ s7 = .int .u64 m ∧ s8 = .bool st.digs ∧ s9 = .bool st.dot ∧ s10 = .int .i64 x ∧ s11 = .int .i64 k ∧ Hid (HL (bsN t) FIN k st m x) ∧ wx = W0)
        case atStart => exact ⟨0, .start, 0, 0, rfl, Nat.zero_le _, rfl, rfl, rfl, rfl, rfl, Lib.hid (by rw [HFt.out]; exact HL.start _), rfl⟩
        case round =>
          obtain ⟨k, ⟨O, dp, dot, digs, us⟩, m, x, hg, hk, rfl, rfl, rfl, rfl, rfl, hH, rfl⟩ := hrel
          have Hg := Lib.hid hg
          dsimp only at *
          clear hg
          have HB := Lib.hid hH.out.b
          obtain ⟨_, _, bm2, bx1, bx2⟩ := hH.out.b
          by_cases hlt : k < t.size
          · have HDk := Lib.hid (bsN_drop t k hlt)
            have hc : t[k].toNat < 256 := UInt8.toNat_lt _
            by_cases h95 : t[k].toNat = 95
            · as_aux_lemma =>
                have q : ((t[k].toNat : Int) == 95) = true := by rw [beq_iff_eq]; omega
                have Hu := Lib.hid (hH.out.under _ HDk.out h95)
                clear h95
                go_wp2_with (go_at_call 85; refine (lower85_any _ _ (UInt8.toNat_lt _)).mono ?_; rintro e w' ⟨rfl, rfl⟩)
                go_roundg (t.size - (k + 1))
                case measure => have := Hg.out; omega
                case rel => exact ⟨k + 1, _, _, _, rfl, by omega, rfl, rfl, rfl, rfl, by go_num, Hu, rfl⟩
            · have q95 : ((t[k].toNat : Int) == 95) = false := by rw [beq_eq_false_iff_ne]; omega
              by_cases h46 : t[k].toNat = 46
              · have q46 : ((t[k].toNat : Int) == 46) = true := by rw [beq_iff_eq]; omega
                have qn : t[k].toNat < 48 := by omega
                have ql := lw_small t[k].toNat (by omega)
                cases dot
                · as_aux_lemma =>
                    have Hu := Lib.hid (hH.out.point _ HDk.out h46 rfl)
                    clear h95 h46
                    go_wp2_with (go_at_call 85; refine (lower85_any _ _ (UInt8.toNat_lt _)).mono ?_; rintro e w' ⟨rfl, rfl⟩)
                    go_roundg (t.size - (k + 1))
                    case measure => have := Hg.out; omega
                    case rel => exact ⟨k + 1, _, _, _, rfl, by omega, rfl, rfl, rfl, rfl, by go_num, Hu, rfl⟩
                · as_aux_lemma =>
                    have He := Lib.hid (hH.out.fin hk (hH.out.stop _ HDk.out (mstop_dot h46 rfl)))
                    clear h95 h46
                    go_wp2_with (go_at_call 85; refine (lower85_any _ _ (UInt8.toNat_lt _)).mono ?_; rintro e w' ⟨rfl, rfl⟩)
                    go_meet
                    exact ⟨He.out, rfl⟩
              · have q46 : ((t[k].toNat : Int) == 46) = false := by rw [beq_eq_false_iff_ne]; omega
                by_cases hdg : 48 ≤ t[k].toNat ∧ t[k].toNat ≤ 57
                · have hdig := digOf_dec (hex := true) hdg.1 hdg.2
                  obtain ⟨d0, d9⟩ := hdg
                  obtain ⟨d, hd⟩ : ∃ d, d = t[k].toNat - 48 := ⟨_, rfl⟩
                  have bd : d < 16 := by omega
                  rw [← hd] at hdig
                  have Hdig := Lib.hid (hH.out.dig _ d HDk.out h95 h46 hdig)
                  have q16 : ((d : Int) == 16) = false := by rw [beq_eq_false_iff_ne]; omega
                  have ed : (t[k].toNat : Int) - 48 = (d : Int) := by omega
                  have Hd48 := Lib.hid hd
                  clear h95 h46 hdig hd hH
                  obtain ⟨n, hn⟩ : ∃ n, n = O.length := ⟨_, rfl⟩
                  have hd2 := Hdig.out
                  dsimp only at hd2
                  rw [← hn] at hd2
                  have hb2 : (n < 16 → m ≤ 1152921504606846975) ∧ (16 ≤ n → 1152921504606846976 ≤ m) := by rw [hn]; exact ⟨HB.out.1, HB.out.2.1⟩
                  clear Hdig
                  have Hn := Lib.hid hn
                  clear hn
                  by_cases hl : n < 16
                  · rw [if_pos hl, if_pos hl] at hd2
                    have bm := hb2.1 hl
                    have qs : ((m : Int) / 1152921504606846976 == 0) = true := by rw [beq_iff_eq]; omega
                    have ho := or_dig m d bm bd
                    have hw := wrap_16 m bm
                    clear hb2 hl
                    cases dot
                    · rw [if_neg (by decide)] at hd2
                      have HD2 := Lib.hid hd2
                      clear hd2
                      as_aux_lemma =>
                        go_wp2_with (go_at_call 85; refine (lower85_any _ _ (UInt8.toNat_lt _)).mono ?_; rintro e w' ⟨rfl, rfl⟩)
                        go_roundg (t.size - (k + 1))
                        case measure => have := Hg.out; omega
                        case rel => exact ⟨k + 1, _, _, _, rfl, by omega, vi rfl, vb (digit_eq _ _ _ _ _ _).1.symm, vb (digit_eq _ _ _ _ _ _).2.symm, vi (by first | rfl | omega), by go_num, HD2, rfl⟩
                    · rw [if_pos rfl] at hd2
                      have HD2 := Lib.hid hd2
                      clear hd2
                      as_aux_lemma =>
                        go_wp2_with (go_at_call 85; refine (lower85_any _ _ (UInt8.toNat_lt _)).mono ?_; rintro e w' ⟨rfl, rfl⟩)
                        go_roundg (t.size - (k + 1))
                        case measure => have := Hg.out; omega
                        case rel => exact ⟨k + 1, _, _, _, rfl, by omega, vi rfl, vb (digit_eq _ _ _ _ _ _).1.symm, vb (digit_eq _ _ _ _ _ _).2.symm, by go_num, by go_num, HD2, rfl⟩
                  · rw [if_neg hl, if_neg hl] at hd2
                    have bm := hb2.2 (by omega)
                    have qs : ((m : Int) / 1152921504606846976 == 0) = false := by rw [beq_eq_false_iff_ne]; omega
                    have ho := or_bit m bm2
                    clear hb2 hl
                    by_cases hd0 : d = 0
                    · rw [if_pos hd0] at hd2
                      have qz : ((d : Int) != 0) = false := by rw [bne_eq_false_iff_eq]; omega
                      cases dot
                      · rw [if_neg (by decide)] at hd2
                        have HD2 := Lib.hid hd2
                        clear hd2
                        as_aux_lemma =>
                          go_wp2_with (go_at_call 85; refine (lower85_any _ _ (UInt8.toNat_lt _)).mono ?_; rintro e w' ⟨rfl, rfl⟩)
                          go_roundg (t.size - (k + 1))
                          case measure => have := Hg.out; omega
                          case rel => exact ⟨k + 1, _, _, _, rfl, by omega, vi rfl, vb (digit_eq _ _ _ _ _ _).1.symm, vb (digit_eq _ _ _ _ _ _).2.symm, by go_num, by go_num, HD2, rfl⟩
                      · rw [if_pos rfl] at hd2
                        have HD2 := Lib.hid hd2
                        clear hd2
                        as_aux_lemma =>
                          go_wp2_with (go_at_call 85; refine (lower85_any _ _ (UInt8.toNat_lt _)).mono ?_; rintro e w' ⟨rfl, rfl⟩)
                          go_roundg (t.size - (k + 1))
                          case measure => have := Hg.out; omega
                          case rel => exact ⟨k + 1, _, _, _, rfl, by omega, vi rfl, vb (digit_eq _ _ _ _ _ _).1.symm, vb (digit_eq _ _ _ _ _ _).2.symm, vi rfl, by go_num, HD2, rfl⟩
                    · rw [if_neg hd0] at hd2
                      have qz : ((d : Int) != 0) = true := by rw [bne_iff_ne]; omega
                      cases dot
                      · rw [if_neg (by decide)] at hd2
                        have HD2 := Lib.hid hd2
                        clear hd2
                        as_aux_lemma =>
                          go_wp2_with (go_at_call 85; refine (lower85_any _ _ (UInt8.toNat_lt _)).mono ?_; rintro e w' ⟨rfl, rfl⟩)
                          go_roundg (t.size - (k + 1))
                          case measure => have := Hg.out; omega
                          case rel => exact ⟨k + 1, _, _, _, rfl, by omega, vi rfl, vb (digit_eq _ _ _ _ _ _).1.symm, vb (digit_eq _ _ _ _ _ _).2.symm, by go_num, by go_num, HD2, rfl⟩
                      · rw [if_pos rfl] at hd2
                        have HD2 := Lib.hid hd2
                        clear hd2
                        as_aux_lemma =>
                          go_wp2_with (go_at_call 85; refine (lower85_any _ _ (UInt8.toNat_lt _)).mono ?_; rintro e w' ⟨rfl, rfl⟩)
                          go_roundg (t.size - (k + 1))
                          case measure => have := Hg.out; omega
                          case rel => exact ⟨k + 1, _, _, _, rfl, by omega, vi rfl, vb (digit_eq _ _ _ _ _ _).1.symm, vb (digit_eq _ _ _ _ _ _).2.symm, vi rfl, by go_num, HD2, rfl⟩
                · by_cases hhx : 97 ≤ lw t[k].toNat ∧ lw t[k].toNat ≤ 102
                  · have hdig := digOf_hex hdg hhx.1 hhx.2
                    obtain ⟨d0, d9⟩ := hhx
                    have h57 : 57 < t[k].toNat := by
                      refine Decidable.byContradiction fun h => ?_
                      have := lw_small t[k].toNat (by omega)
                      omega
                    obtain ⟨d, hd⟩ : ∃ d, d = lw t[k].toNat - 87 := ⟨_, rfl⟩
                    have bd : d < 16 := by omega
                    rw [← hd] at hdig
                    have Hdig := Lib.hid (hH.out.dig _ d HDk.out h95 h46 hdig)
                    have q16 : ((d : Int) == 16) = false := by rw [beq_eq_false_iff_ne]; omega
                    have ed : (lw t[k].toNat : Int) - 97 + 10 = (d : Int) := by omega
                    have Hd48 := Lib.hid hd
                    clear h95 h46 hdig hd hH hdg
                    obtain ⟨n, hn⟩ : ∃ n, n = O.length := ⟨_, rfl⟩
                    have hd2 := Hdig.out
                    dsimp only at hd2
                    rw [← hn] at hd2
                    have hb2 : (n < 16 → m ≤ 1152921504606846975) ∧ (16 ≤ n → 1152921504606846976 ≤ m) := by rw [hn]; exact ⟨HB.out.1, HB.out.2.1⟩
                    clear Hdig
                    have Hn := Lib.hid hn
                    clear hn
                    by_cases hl : n < 16
                    · rw [if_pos hl, if_pos hl] at hd2
                      have bm := hb2.1 hl
                      have qs : ((m : Int) / 1152921504606846976 == 0) = true := by rw [beq_iff_eq]; omega
                      have ho := or_dig m d bm bd
                      have hw := wrap_16 m bm
                      clear hb2 hl
                      cases dot
                      · rw [if_neg (by decide)] at hd2
                        have HD2 := Lib.hid hd2
                        clear hd2
                        as_aux_lemma =>
                          go_wp2_with (go_at_call 85; refine (lower85_any _ _ (UInt8.toNat_lt _)).mono ?_; rintro e w' ⟨rfl, rfl⟩)
                          go_roundg (t.size - (k + 1))
                          case measure => have := Hg.out; omega
                          case rel => exact ⟨k + 1, _, _, _, rfl, by omega, vi rfl, vb (digit_eq _ _ _ _ _ _).1.symm, vb (digit_eq _ _ _ _ _ _).2.symm, vi (by first | rfl | omega), by go_num, HD2, rfl⟩
                      · rw [if_pos rfl] at hd2
                        have HD2 := Lib.hid hd2
                        clear hd2
                        as_aux_lemma =>
                          go_wp2_with (go_at_call 85; refine (lower85_any _ _ (UInt8.toNat_lt _)).mono ?_; rintro e w' ⟨rfl, rfl⟩)
                          go_roundg (t.size - (k + 1))
                          case measure => have := Hg.out; omega
                          case rel => exact ⟨k + 1, _, _, _, rfl, by omega, vi rfl, vb (digit_eq _ _ _ _ _ _).1.symm, vb (digit_eq _ _ _ _ _ _).2.symm, by go_num, by go_num, HD2, rfl⟩
                    · rw [if_neg hl, if_neg hl] at hd2
                      have bm := hb2.2 (by omega)
                      have qs : ((m : Int) / 1152921504606846976 == 0) = false := by rw [beq_eq_false_iff_ne]; omega
                      have ho := or_bit m bm2
                      clear hb2 hl
                      by_cases hd0 : d = 0
                      · exfalso; omega
                      · rw [if_neg hd0] at hd2
                        have qz : ((d : Int) != 0) = true := by rw [bne_iff_ne]; omega
                        cases dot
                        · rw [if_neg (by decide)] at hd2
                          have HD2 := Lib.hid hd2
                          clear hd2
                          as_aux_lemma =>
                            go_wp2_with (go_at_call 85; refine (lower85_any _ _ (UInt8.toNat_lt _)).mono ?_; rintro e w' ⟨rfl, rfl⟩)
                            go_roundg (t.size - (k + 1))
                            case measure => have := Hg.out; omega
                            case rel => exact ⟨k + 1, _, _, _, rfl, by omega, vi rfl, vb (digit_eq _ _ _ _ _ _).1.symm, vb (digit_eq _ _ _ _ _ _).2.symm, by go_num, by go_num, HD2, rfl⟩
                        · rw [if_pos rfl] at hd2
                          have HD2 := Lib.hid hd2
                          clear hd2
                          as_aux_lemma =>
                            go_wp2_with (go_at_call 85; refine (lower85_any _ _ (UInt8.toNat_lt _)).mono ?_; rintro e w' ⟨rfl, rfl⟩)
                            go_roundg (t.size - (k + 1))
                            case measure => have := Hg.out; omega
                            case rel => exact ⟨k + 1, _, _, _, rfl, by omega, vi rfl, vb (digit_eq _ _ _ _ _ _).1.symm, vb (digit_eq _ _ _ _ _ _).2.symm, vi rfl, by go_num, HD2, rfl⟩
                  · have He := Lib.hid (hH.out.fin hk (hH.out.stop _ HDk.out (mstop_other h95 h46 (digOf_none hdg (fun h => hhx h.2)))))
                    have hlw : lw t[k].toNat < 256 := lw_lt _ hc
                    have hdd : (t[k].toNat < 48 ∧ lw t[k].toNat < 97) ∨ (57 < t[k].toNat ∧ lw t[k].toNat < 97) ∨ (57 < t[k].toNat ∧ 102 < lw t[k].toNat) := by
                      by_cases h0 : t[k].toNat < 48
                      · exact Or.inl ⟨h0, lw_small _ (by omega)⟩
                      · omega
                    clear h95 h46 hdg hhx
                    rcases hdd with ⟨h1, h2⟩ | ⟨h1, h2⟩ | ⟨h1, h2⟩
                    · as_aux_lemma =>
                        go_wp2_with (go_at_call 85; refine (lower85_any _ _ (UInt8.toNat_lt _)).mono ?_; rintro e w' ⟨rfl, rfl⟩)
                        go_meet
                        exact ⟨He.out, rfl⟩
                    · as_aux_lemma =>
                        go_wp2_with (go_at_call 85; refine (lower85_any _ _ (UInt8.toNat_lt _)).mono ?_; rintro e w' ⟨rfl, rfl⟩)
                        go_meet
                        exact ⟨He.out, rfl⟩
                    · as_aux_lemma =>
                        go_wp2_with (go_at_call 85; refine (lower85_any _ _ (UInt8.toNat_lt _)).mono ?_; rintro e w' ⟨rfl, rfl⟩)
                        go_meet
                        exact ⟨He.out, rfl⟩
          · as_aux_lemma =>
              have He := Lib.hid (hH.out.fin hk (hH.out.done (bsN_drop_end t k (by omega))))
              go_wp2_with fail
              go_meet
              exact ⟨He.out, rfl⟩
      case rest =>
        obtain ⟨⟨k, m, x, rfl, rfl, rfl, rfl, hk, hR, hm, hx⟩, rfl⟩ := hcut
        have HNO := Lib.hid (show lXe true ((bsN t).drop k) = none → lread (bsN s) = none from fun h => lread_nox (by rw [HX.out, ← HFe.out, hR]; exact h))
        have hmok := mRun_ok true (bsN t) .start (start_ok true)
        have hmlen := mRun_len true (bsN t) .start
        have hmdp := mRun_dp true (bsN t) .start
        rw [← HFt.out] at hmok hmlen hmdp
        rw [bsN_len] at hmlen hmdp
        have bx1 : -2000 ≤ x ∧ x ≤ 2000 := by have e : (MS.start).dp = 0 := rfl; have e2 : (MS.start).D.length = 0 := rfl; rw [hx]; omega
        have bm2 : m < 18446744073709551616 := by
          rw [hm]
          have h1 := num_lt 16 (by decide) (FIN.1.D.take 16) (fun x hx => hmok.dig x (List.mem_of_mem_take hx))
          have h2 : (FIN.1.D.take 16).length ≤ 16 := by rw [List.length_take]; omega
          have h3 : 16 ^ (FIN.1.D.take 16).length ≤ 16 ^ 16 := Nat.pow_le_pow_right (by decide) h2
          unfold stk
          split
          · exact Nat.or_lt_two_pow (n := 64) (by omega) (by decide)
          · omega
        have HR := Lib.hid hR
        have Hm := Lib.hid hm
        have Hx := Lib.hid hx
        clear hmok hmlen hmdp hR hm hx
        obtain ⟨dg, hdg⟩ : ∃ dg, dg = FIN.1.digs := ⟨_, rfl⟩
        rw [← hdg]
        have Hdg := Lib.hid hdg
        clear hdg
        cases dg
        · as_aux_lemma =>
            have Hn := Lib.hid (show lread (bsN s) = none from lread_nodigs (by rw [← HFe.out]; exact Hdg.out.symm))
            go_wp2_with fail
            go_ret2
            exact RDPost.no Hn.out HBel.out rfl
        · have hdgt : FIN.1.digs = true := Hdg.out.symm
          obtain ⟨MK, hMK⟩ : ∃ MK, MK = mkAt true (bsN t) k := ⟨_, rfl⟩
          have HMK := Lib.hid hMK
          have Hdgt := Lib.hid hdgt
          clear hMK hdgt
          go_upto_region 37 with fail
          go_cut [143] (fun v w2 => v = .bool MK ∧ w2 = wc)
          case first =>
            as_aux_lemma =>
              go_wp2_with (go_at_call 85; refine (lower85_any _ _ (UInt8.toNat_lt _)).mono ?_; rintro e w' ⟨rfl, rfl⟩)
              · go_meet
                exact ⟨vb (by rw [HMK.out, mkAt_in ‹k < t.size›]; rfl), rfl⟩
              · go_meet
                exact ⟨vb (by rw [HMK.out, mkAt_end (by omega)]), rfl⟩
          case rest =>
            obtain ⟨rfl, rfl⟩ := hcut
            go_upto_if 143 with fail
            go_cut [10, 11] (fun s10 s11 w2 => ∃ (i : Nat) (e : Int), i ≤ t.size ∧ s11 = .int .i64 i ∧ s10 = .int .i64 (x + e) ∧ -100000 ≤ e ∧ e ≤ 100000 ∧ lXe true ((bsN t).drop k) = (if i = t.size then some e else none) ∧ w2 = wc)
            case first => exact expL true s t w wc k x MK _ _ _ _ _ _ _ _ _ _ _ _ _ _ _ _ _ _ _ _ _ _ _ _ _ _ _ _ _ _ _ _ _ _ _ _ _ _ _ _ _ _ _ _ _ _ _ _ _ _ _ _ _ _ _ _ _ _ _ _ _ _ _ _ _ _ _ _ _ _ _ _ _ _ _ _ _ _ _ _ _ _ _ _ _ _ _ _ _ _ _ _ _ _ _ _ _ _ _ _ _ _ _ _ _ _ _ _ _ _ _ _ _ _ _ _ _ _ _ _ _ _ _ _ _ _ _ _ _ _ _ _ _ _ _ _ _ _ _ _ _ _ _ _ _ _ _ _ _ _ _ _ _ _ _ _ _ _ _ _ _ _ _ _ _ _ _ _ _ _ _ _ _ _ _ _ _ _ _ _ _ _ _ _ _ _ _ _ _ _ _ _ _ _ _ _ _ _ _ _ _ _ _ _ _ _ _ _ _ _ _ _ _ _ _ _ _ _ _ _ _ _ _ _ _ _ _ _ _ _ _ _ _ _ _ _ _ _ _ _ _ _ _ _ _ _ _ _ _ _ _ _ _ _ _ _ _ _ _ _ _ _ _ _ hts hk bx1 HMK HNO HBel (by assumption) (by assumption)
            case rest =>
              obtain ⟨i, e, hi, rfl, rfl, d1b, d2b, hend, rfl⟩ := hcut
              have Hend := Lib.hid hend
              clear hend
              by_cases hsz : i < t.size
              · as_aux_lemma =>
                  have Hn := Lib.hid (HNO.out (Hend.out.trans (if_neg (by omega))))
                  go_wp2_with fail
                  go_ret2
                  exact RDPost.no Hn.out HBel.out rfl
              · have Hxe := Lib.hid (Hend.out.trans (if_pos (by omega)))
                have Hlr := Lib.hid (show lread (bsN s) = some (lhexD m (x + e)) by
                  unfold lread
                  rw [← HFe.out, Hdgt.out, if_pos rfl, HX.out, HR.out, Hxe.out]
                  dsimp only
                  rw [if_pos rfl, Hm.out, Hx.out])
                have hszi : i = t.size := by omega
                subst hszi
                clear hsz
                have Hnd := Lib.hid (newDec_any m wc bm2)
                obtain ⟨X, hX⟩ : ∃ X, X = x + e := ⟨_, rfl⟩
                rw [← hX] at Hlr ⊢
                have bX1 : -110000 ≤ X := by omega
                have bX2 : X ≤ 110000 := by omega
                clear hX Hxe Hend
                by_cases hm0 : m = 0
                · as_aux_lemma =>
                    have q0 : ((m : Int) == 0) = true := by rw [beq_iff_eq]; omega
                    have Hl := Lib.hid (Hlr.out.trans (congrArg some (show lhexD m X = ([], 0) from if_pos (Or.inl hm0))))
                    clear hm0
                    go_wp2_with (go_at_call 87; refine Hnd.out.mono ?_; rintro e' w1 ⟨hb1, hsz1, rfl, hld⟩; have HB1 := Lib.hid (HBel.out.trans (hb1.mono HBel.out.size)); clear hb1 hld)
                    go_ret2
                    exact RDPost.nil Hl.out (HB1.out.alloc (by have := HB1.out.size; omega) _) (by have := HB1.out.size; omega) rfl ⟨_, heap_alloc_new _ _, Or.inl rfl⟩
                · have q0 : ((m : Int) == 0) = false := by rw [beq_eq_false_iff_ne]; omega
                  have hmp : 0 < m := by omega
                  have Hdd := Lib.hid (dd_ok hmp bm2)
                  clear hm0
                  by_cases hlo : X < -1300
                  · as_aux_lemma =>
                      have Hl := Lib.hid (Hlr.out.trans (congrArg some (show lhexD m X = ([], 0) from if_pos (Or.inr hlo))))
                      go_wp2_with (go_at_call 87; refine Hnd.out.mono ?_; rintro e' w1 ⟨hb1, hsz1, rfl, hld⟩; have HB1 := Lib.hid (HBel.out.trans (hb1.mono HBel.out.size)); clear hb1 hld)
                      go_ret2
                      exact RDPost.nil Hl.out (HB1.out.alloc (by have := HB1.out.size; omega) _) (by have := HB1.out.size; omega) rfl ⟨_, heap_alloc_new _ _, Or.inl rfl⟩
                  · by_cases hneg : X < 0
                    · as_aux_lemma =>
                        obtain ⟨k0, hk0⟩ : ∃ k0, k0 = (-X).toNat := ⟨_, rfl⟩
                        have hXk : X = -(k0 : Int) := by omega
                        have hk1 : 0 < k0 := by omega
                        have hk2 : k0 ≤ 1300 := by omega
                        subst hXk
                        clear hk0 hlo hneg
                        have Hl := Lib.hid (lhex_dn hmp bm2 hk1 hk2)
                        go_wp2_with (first | (go_at_call 87; refine Hnd.out.mono ?_; rintro e' w1 ⟨hb1, hsz1, rfl, hld⟩; have HB1 := Lib.hid (HBel.out.trans (hb1.mono HBel.out.size)); obtain ⟨g, cap, hld2⟩ := hld hmp; have HS := Lib.hid (shiftDnW w1 _ _ g cap _ _ k0 (k0 + 1) hld2 Hdd.out.1 hk1 (by omega) (by omega) (by have := Hdd.out.2.1; omega) (by have := Hdd.out.2.2; omega) (by have := Hdd.out.2.2; omega)); clear hb1 hld hld2) | (go_at_call 88; refine HS.out.mono ?_; rintro e2 w2 ⟨rfl, hg2, hf2⟩; have HG2 := Lib.hid hg2; have HF2 := Lib.hid hf2; clear hg2 hf2))
                        go_ret2
                        obtain ⟨g', cap', hl2⟩ := HG2.out
                        exact RDPost.yes (Hlr.out.trans (congrArg some Hl.out.1)) (HB1.out.trans (HF2.out.below HBel.out.size hsz1)) HBel.out.size rfl Hl.out.2 HBel.out.size hl2
                    · by_cases hhi : 1100 < X
                      · as_aux_lemma =>
                          have Hl := Lib.hid (lhex_top hmp bm2 hhi)
                          clear hlo hneg
                          go_wp2_with (first | (go_at_call 87; refine Hnd.out.mono ?_; rintro e' w1 ⟨hb1, hsz1, rfl, hld⟩; have HB1 := Lib.hid (HBel.out.trans (hb1.mono HBel.out.size)); obtain ⟨g, cap, hld2⟩ := hld hmp; have HS := Lib.hid (shiftUpW w1 _ _ g cap _ _ 1100 1101 hld2 Hdd.out.1 (by omega) (by omega) (by have := Hdd.out.2.1; omega) (by have := Hdd.out.2.2; omega) (by have := Hdd.out.2.2; omega)); clear hb1 hld hld2) | (go_at_call 88; refine HS.out.mono ?_; rintro e2 w2 ⟨rfl, hg2, hf2⟩; have HG2 := Lib.hid hg2; have HF2 := Lib.hid hf2; clear hg2 hf2))
                          go_ret2
                          obtain ⟨g', cap', hl2⟩ := HG2.out
                          exact RDPost.yes (Hlr.out.trans (congrArg some Hl.out.1)) (HB1.out.trans (HF2.out.below HBel.out.size hsz1)) HBel.out.size rfl Hl.out.2 HBel.out.size hl2
                      · as_aux_lemma =>
                          obtain ⟨k0, hk0⟩ : ∃ k0, k0 = X.toNat := ⟨_, rfl⟩
                          have hXk : X = (k0 : Int) := by omega
                          have hk2 : k0 ≤ 1100 := by omega
                          subst hXk
                          clear hk0 hlo hneg hhi
                          have Hl := Lib.hid (lhex_up hmp bm2 hk2)
                          go_wp2_with (first | (go_at_call 87; refine Hnd.out.mono ?_; rintro e' w1 ⟨hb1, hsz1, rfl, hld⟩; have HB1 := Lib.hid (HBel.out.trans (hb1.mono HBel.out.size)); obtain ⟨g, cap, hld2⟩ := hld hmp; have HS := Lib.hid (shiftUpW w1 _ _ g cap _ _ k0 (k0 + 1) hld2 Hdd.out.1 (by omega) (by omega) (by have := Hdd.out.2.1; omega) (by have := Hdd.out.2.2; omega) (by have := Hdd.out.2.2; omega)); clear hb1 hld hld2) | (go_at_call 88; refine HS.out.mono ?_; rintro e2 w2 ⟨rfl, hg2, hf2⟩; have HG2 := Lib.hid hg2; have HF2 := Lib.hid hf2; clear hg2 hf2))
                          go_ret2
                          obtain ⟨g', cap', hl2⟩ := HG2.out
                          exact RDPost.yes (Hlr.out.trans (congrArg some Hl.out.1)) (HB1.out.trans (HF2.out.below HBel.out.size hsz1)) HBel.out.size rfl Hl.out.2 HBel.out.size hl2
end Go.Proofs.YtdfbokmjipdolaaGreatDoor
