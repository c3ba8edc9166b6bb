/- strings.EqualFold, over strings of any bytes. -/
import Derived.Test.YtdfbokmjipdolaaGreatDoorQ18
import Derived.Test.YtdfbokmjipdolaaGreatDoorQ14
import Derived.Test.YtdfbokmjipdolaaGreatDoorQ11
import Derived.Shelf.Strings.MapAny
import Derived.Outline
set_option linter.unusedVariables false
set_option linter.unusedSimpArgs false
namespace Go.Proofs.YtdfbokmjipdolaaGreatDoor
open Go.RowKit Go.Lib

/-- going round the orbit of a until a itself, or b or more -/
def lpF (a b : Nat) : Nat → Nat → Nat
  | 0, r => r
  | f + 1, r => if r ≠ a ∧ r < b then lpF a b f (sf r) else r
theorem lpF_stop {a b r : Nat} (f : Nat) (h : ¬ (r ≠ a ∧ r < b)) : lpF a b f r = r := by
  cases f with
  | zero => rfl
  | succ f => rw [lpF, if_neg h]
/-- two runes, a below b -/
def foldLt (a b : Nat) : Bool := if b < 128 then decide (65 ≤ a ∧ a ≤ 90 ∧ b = a + 32) else decide (lpF a b 4 (sf a) = b)
def runeEq (a b : Nat) : Bool := if b = a then true else if b < a then foldLt b a else foldLt a b
def eqU (s : ByteArray) : Nat → Nat → ByteArray → Bool
  | 0, _, t => decide (t.size = 0)
  | f + 1, pos, t =>
    if pos < s.size then
      (if t.size = 0 then false
       else if runeEq (Utf8.decode s pos).1 (Utf8.decode t 0).1 then eqU s f (pos + (Utf8.decode s pos).2) (t.extract (Utf8.decode t 0).2 t.size)
       else false)
    else decide (t.size = 0)
def byteEq (a b : Nat) : Bool := if b = a then true else if b < a then decide (65 ≤ b ∧ b ≤ 90 ∧ a = b + 32) else decide (65 ≤ a ∧ a ≤ 90 ∧ b = a + 32)
def eqA (s t : ByteArray) : Nat → Nat → Bool
  | 0, _ => decide (s.size = t.size)
  | f + 1, i =>
    if 128 ≤ ((bsN s).getD i 0 ||| (bsN t).getD i 0) then eqU (s.extract i s.size) (s.extract i s.size).size 0 (t.extract i t.size)
    else if byteEq ((bsN s).getD i 0) ((bsN t).getD i 0) then eqA s t f (i + 1) else false
/-- what strings.EqualFold answers -/
def eqf (s t : ByteArray) : Bool := eqA s t (min s.size t.size) 0

theorem eqU_end {s t : ByteArray} {f pos : Nat} (h : ¬ pos < s.size) : eqU s f pos t = decide (t.size = 0) := by
  cases f with
  | zero => rfl
  | succ f => rw [eqU, if_neg h]
theorem decGo {t : ByteArray} (h : t.size ≠ 0) : decodeGo t = Utf8.decode t 0 := by unfold decodeGo; rw [if_neg h]
theorem dec_width (s : ByteArray) (pos : Nat) (h : pos < s.size) : 1 ≤ (Utf8.decode s pos).2 ∧ pos + (Utf8.decode s pos).2 ≤ s.size := by
  have hlen : s.data.toList.length = s.size := (Lib.size_eq s).symm
  have hne : s.data.toList.drop pos ≠ [] := by
    intro h0
    have := congrArg List.length h0
    rw [List.length_drop, hlen] at this
    simp at this
    omega
  refine ⟨Lib.width_pos s pos, ?_⟩
  have := Lib.decodeL_le _ hne
  rw [Lib.decodeL_drop, List.length_drop, hlen] at this
  omega
theorem bsN_getD {s : ByteArray} {i : Nat} (h : i < s.size) : (bsN s).getD i 0 = s[i].toNat := by
  rw [List.getD_eq_getElem?_getD, bsN_get h]
theorem int_beq_nat (a b : Nat) : ((a : Int) == (b : Int)) = decide (a = b) := by rw [Bool.eq_iff_iff]; simp; omega
theorem or128 (a b : Nat) (ha : a < 256) (hb : b < 256) : bits BinOp.or IntKind.u8 (a : Int) (b : Int) = ((a ||| b : Nat) : Int) := u8_or_nat _ _ (by omega) (by omega)

set_option maxRecDepth 100000 in
set_option maxHeartbeats 8000000 in
theorem eqf_any (s t : ByteArray) (w : World) (hs : s.size ≤ 400) (ht : t.size ≤ 400) (hg : FG w) : Calls Tryz.prog 34 #[.string s, .string t] w fun e w' => e = .returned (.bool (eqf s t)) ∧ Below w.heap.size w w' := by
  obtain ⟨M, hM⟩ : ∃ M : Nat, min (s.size : Int) (t.size : Int) = (M : Int) := ⟨min s.size t.size, by omega⟩
  have hMs : M ≤ s.size := by omega
  have hMt : M ≤ t.size := by omega
  have hMe : min s.size t.size = M := by omega
  obtain ⟨V, hV⟩ : ∃ V, V = eqf s t := ⟨_, rfl⟩
  have HV := Lib.hid (show V = eqA s t M 0 by rw [hV, ← hMe]; rfl)
  rw [← hV]
  have HG := Lib.hid hg
  clear hV hg hMe
  go_enter Tryz.func34, Tryz.ntmps34
  go_wp2_with fail
  refine wp_scope_fwd fun J hJ => ?_
  have H0 := Lib.hid (hJ 0 _ rfl)
  clear hJ
  go_wp2_with fail
  go_loopg [5] M (fun g s5 wx => w = wx ∧ ∃ i : Nat, i + g = M ∧ s5 = .int .i64 i ∧ Hid (V = eqA s t g i))
  case atStart => exact ⟨rfl, 0, by omega, rfl, HV⟩
  case round =>
    obtain ⟨rfl, i, hig, rfl, HI⟩ := hrel
    cases gk with
    | zero =>
      as_aux_lemma =>
        have hiM : ¬ ((i : Int) < (M : Int)) := by omega
        have hE : V = decide (s.size = t.size) := HI.out
        have HE := Lib.hid hE
        clear hE HI HV H0
        go_wp2_with fail
        go_ret
        exact ⟨(show Ending.returned (.bool ((s.size : Int) == (t.size : Int))) = .returned (.bool V) by rw [HE.out, int_beq_nat]), Below.refl _ _⟩
    | succ g =>
      have hiM : (i : Int) < (M : Int) := by omega
      have hisz : i < s.size := by omega
      have hitz : i < t.size := by omega
      obtain ⟨c, hcc⟩ : ∃ c, c = s[i].toNat := ⟨_, rfl⟩
      obtain ⟨d, hdd⟩ : ∃ d, d = t[i].toNat := ⟨_, rfl⟩
      have hc : c < 256 := by rw [hcc]; exact UInt8.toNat_lt _
      have hd : d < 256 := by rw [hdd]; exact UInt8.toNat_lt _
      have hor := or128 c d hc hd
      have hI2 : V = if 128 ≤ (c ||| d) then eqU (s.extract i s.size) (s.extract i s.size).size 0 (t.extract i t.size) else if byteEq c d then eqA s t g (i + 1) else false := by
        rw [HI.out, eqA, bsN_getD hisz, bsN_getD hitz, ← hcc, ← hdd]
      have ec : (s[i].toNat : Int) = (c : Int) := by rw [hcc]
      have ed : (t[i].toNat : Int) = (d : Int) := by rw [hdd]
      have HI2 := Lib.hid hI2
      clear hI2 HI HV hcc hdd
      by_cases hu : 128 ≤ (c ||| d)
      · have h128 : (128 : Int) ≤ ((c ||| d : Nat) : Int) := by omega
        obtain ⟨S, hS⟩ : ∃ S, S = s.extract i s.size := ⟨_, rfl⟩
        obtain ⟨T, hT⟩ : ∃ T, T = t.extract i t.size := ⟨_, rfl⟩
        have hV2 : V = eqU S S.size 0 T := by rw [HI2.out, if_pos hu, hS, hT]
        have HV2 := Lib.hid hV2
        have hSs : S.size ≤ 400 := by rw [hS]; simp; omega
        have hTs : T.size ≤ 400 := by rw [hT]; simp; omega
        have hlen : S.data.toList.length = S.size := (Lib.size_eq S).symm
        have HS := Lib.hid hS
        have HT := Lib.hid hT
        have h0 := H0.out
        clear hV2 hu HI2 H0 hM
        go_wp2_with fail
        refine wp_goto (h0 _ _ ?_)
        clear h0
        go_wp2_with fail
        rw [← hS, ← hT]
        clear hS hT
        go_loopg [1] S.size (fun gk s1 wx => ∃ (T' : ByteArray) (pos : Nat), s1 = .string T' ∧ wx.heap[w.heap.size]? = some (.stringIter S pos) ∧ Hid (Below w.heap.size w wx) ∧ Hid (V = eqU S gk pos T') ∧ S.size ≤ pos + gk ∧ pos ≤ S.size ∧ T'.size ≤ 400)
        case atStart => exact ⟨T, 0, rfl, World.iter_heap w S 0, Lib.hid ((Below.refl _ w).alloc (Nat.le_refl _) _), HV2, by omega, by omega, hTs⟩
        case round =>
          obtain ⟨T', pos, rfl, hit, hbw, HVr, hfu, hps, hT's⟩ := hrel
          by_cases hlt : pos < S.size
          · obtain ⟨g', rfl⟩ : ∃ g', gk = g' + 1 := ⟨gk - 1, by omega⟩
            have hnx : ∀ ty, (Instr.next (.pointer (some ⟨w.heap.size, 0, none⟩)) true ty).run Tryz.prog wr = _ := fun ty => Lib.run_next_any_at wr w.heap.size S pos ty hit hlt
            have hdw := dec_width S pos hlt
            have hrl := Lib.rune_le S pos
            have HVr2 := Lib.hid (show V = (if T'.size = 0 then false else if runeEq (Utf8.decode S pos).1 (Utf8.decode T' 0).1 then eqU S g' (pos + (Utf8.decode S pos).2) (T'.extract (Utf8.decode T' 0).2 T'.size) else false) by rw [HVr.out, eqU, if_pos hlt])
            obtain ⟨R, hR⟩ : ∃ R, (Utf8.decode S pos).1 = R := ⟨_, rfl⟩
            obtain ⟨K, hK⟩ : ∃ K, (Utf8.decode S pos).2 = K := ⟨_, rfl⟩
            rw [hR, hK] at hnx HVr2
            rw [hK] at hdw
            rw [hR] at hrl
            have hit2 := Lib.iterAt_heap wr w.heap.size S pos (pos + K) hit
            have hbw2 := Lib.below_iterAt hbw.out (k := w.heap.size) (Nat.le_refl _) S (pos + K)
            obtain ⟨W, hWd⟩ : ∃ W, wr.iterAt w.heap.size S (pos + K) = W := ⟨_, rfl⟩
            rw [hWd] at hnx hit2 hbw2
            have HBW := Lib.hid hbw2
            have HGW := Lib.hid (HG.out.later hbw2)
            have hsz := (Array.getElem?_eq_some_iff.1 hit2).1
            have HW := Lib.hid hWd
            clear hbw hit HVr hWd hR hK hbw2
            by_cases h0 : T'.size = 0
            · as_aux_lemma =>
                have Hn := Lib.hid (show V = false by rw [HVr2.out, if_pos h0])
                have q : ((T'.size : Int) == 0) = true := by rw [beq_iff_eq]; omega
                clear HVr2 h0
                go_wp2_with fail
                rw [Exit.noGoto_ret]
                go_ret
                exact ⟨(show Ending.returned (.bool false) = .returned (.bool V) by rw [Hn.out]), HBW.out⟩
            · have q : ((T'.size : Int) == 0) = false := by rw [beq_eq_false_iff_ne]; omega
              have Hdec := Lib.hid (Tryz.utf8_DecodeRuneInString T' W HGW.out.u8)
              rw [decGo h0] at Hdec
              have hdw2 := dec_width T' 0 (by omega)
              have hrl2 := Lib.rune_le T' 0
              have HVr3 := Lib.hid (show V = (if runeEq R (Utf8.decode T' 0).1 then eqU S g' (pos + K) (T'.extract (Utf8.decode T' 0).2 T'.size) else false) by rw [HVr2.out, if_neg h0])
              obtain ⟨R2, hR2⟩ : ∃ R2, (Utf8.decode T' 0).1 = R2 := ⟨_, rfl⟩
              obtain ⟨K2, hK2⟩ : ∃ K2, (Utf8.decode T' 0).2 = K2 := ⟨_, rfl⟩
              rw [hR2, hK2] at Hdec HVr3
              rw [hK2] at hdw2
              rw [hR2] at hrl2
              clear hR2 hK2 h0 HVr2
              obtain ⟨T2, hT2⟩ : ∃ T2, T2 = T'.extract K2 T'.size := ⟨_, rfl⟩
              rw [← hT2] at HVr3
              have hT2s : T2.size ≤ 400 := by rw [hT2]; simp; omega
              have HT2 := Lib.hid hT2
              clear hT2
              go_upto_region 23 with (go_at_call 46; refine Hdec.out.mono ?_; rintro e W2 ⟨rfl, hb2⟩; have HB2 := Lib.hid (HBW.out.trans (hb2.mono HBW.out.size)); have hit3 := (hb2.block _ hsz).trans hit2; clear hb2)
              rw [← HT2.out]
              by_cases he : R2 = R
              · as_aux_lemma =>
                  have Hn := Lib.hid (show V = eqU S g' (pos + K) T2 by rw [HVr3.out, if_pos (by unfold runeEq; rw [if_pos he])])
                  have q2 : ((R2 : Int) == (R : Int)) = true := by rw [beq_iff_eq]; omega
                  clear HVr3 he
                  go_wp2_with fail
                  go_roundg g'
                  case measure => omega
                  case rel => exact ⟨T2, pos + K, rfl, hit3, HB2, Hn, by omega, hdw.2, hT2s⟩
              · have q2 : ((R2 : Int) == (R : Int)) = false := by rw [beq_eq_false_iff_ne]; omega
                obtain ⟨a, ha⟩ : ∃ a, a = if R2 < R then R2 else R := ⟨_, rfl⟩
                obtain ⟨b, hb⟩ : ∃ b, b = if R2 < R then R else R2 := ⟨_, rfl⟩
                have hab : a < b := by rw [ha, hb]; split <;> omega
                have hb14 : b ≤ 1114111 := by rw [hb]; split <;> omega
                have HVr4 := Lib.hid (show V = (if foldLt a b then eqU S g' (pos + K) T2 else false) by
                  rw [HVr3.out, ha, hb]
                  unfold runeEq
                  rw [if_neg he]
                  by_cases hl : R2 < R
                  · rw [if_pos hl, if_pos hl, if_pos hl]
                  · rw [if_neg hl, if_neg hl, if_neg hl])
                have Ha := Lib.hid ha
                have Hb := Lib.hid hb
                clear HVr3 ha hb
                go_upto_if 87 with fail
                go_cut [10, 11] (fun s10 s11 wx => s10 = .int .i32 a ∧ s11 = .int .i32 b ∧ wx = W2)
                case first =>
                  as_aux_lemma =>
                    by_cases hl : R2 < R
                    · go_wp2_with fail
                      go_meet
                      exact ⟨vi (by rw [Ha.out, if_pos hl]), vi (by rw [Hb.out, if_pos hl]), rfl⟩
                    · go_wp2_with fail
                      go_meet
                      exact ⟨vi (by rw [Ha.out, if_neg hl]), vi (by rw [Hb.out, if_neg hl]), rfl⟩
                case rest =>
                  obtain ⟨rfl, rfl, rfl⟩ := hcut
                  clear Ha Hb he q2
                  by_cases hlow : b < 128
                  · by_cases hy : 65 ≤ a ∧ a ≤ 90 ∧ b = a + 32
                    · as_aux_lemma =>
                        have Hn := Lib.hid (show V = eqU S g' (pos + K) T2 by rw [HVr4.out, if_pos (by unfold foldLt; rw [if_pos hlow]; exact decide_eq_true hy)])
                        obtain ⟨y1, y2, y3⟩ := hy
                        have q3 : ((b : Int) == (a : Int) + 97 - 65) = true := by rw [beq_iff_eq]; omega
                        clear HVr4 y3
                        go_wp2_with fail
                        go_roundg g'
                        case measure => omega
                        case rel => exact ⟨T2, pos + K, rfl, hit3, HB2, Hn, by omega, hdw.2, hT2s⟩
                    · as_aux_lemma =>
                        have Hn := Lib.hid (show V = false by rw [HVr4.out, if_neg (by unfold foldLt; rw [if_pos hlow, decide_eq_true_iff]; exact hy)])
                        clear HVr4
                        go_wp2_with fail
                        all_goals first
                          | ((try rw [Exit.noGoto_ret]); go_ret; exact ⟨(show Ending.returned (.bool false) = .returned (.bool V) by rw [Hn.out]), HB2.out⟩)
                          | (exfalso; simp only [beq_iff_eq, beq_eq_false_iff_ne, ne_eq] at *; omega)
                  · have HVr5 := Lib.hid (show V = (if lpF a b 4 (sf a) = b then eqU S g' (pos + K) T2 else false) by
                      rw [HVr4.out]
                      unfold foldLt
                      rw [if_neg hlow]
                      by_cases hh : lpF a b 4 (sf a) = b
                      · rw [if_pos hh, if_pos (decide_eq_true hh)]
                      · rw [if_neg hh, if_neg (by rw [decide_eq_true_iff]; exact hh)])
                    obtain ⟨hsf, m, hm1, hm4, hmit⟩ := sf_cyc (r := a) (by omega)
                    obtain ⟨LP, hLP⟩ : ∃ LP, LP = lpF a b 4 (sf a) := ⟨_, rfl⟩
                    rw [← hLP] at HVr5
                    have HLP := Lib.hid hLP
                    have Hmit := Lib.hid hmit
                    have Hf := Lib.hid (fold47 a wc (by omega) (HG.out.later HB2.out))
                    clear hLP hmit HVr4
                    go_upto_block 4 with (go_at_call 47; refine Hf.out.mono ?_; rintro e W3 ⟨rfl, hb3⟩; have HB3 := Lib.hid (HB2.out.trans (hb3.mono HB2.out.size)); have hit4 := (hb3.block _ (Array.getElem?_eq_some_iff.1 hit3).1).trans hit3; clear hb3)
                    go_cut [13] (fun s13 wx => s13 = .int .i32 LP ∧ Hid (Below w.heap.size w wx) ∧ wx.heap[w.heap.size]? = some (.stringIter S (pos + K)))
                    case first =>
                      as_aux_lemma =>
                        go_wp2_with fail
                        go_loopg [13] (m - 1) (fun gk s13 wx => ∃ r j : Nat, s13 = .int .i32 r ∧ gk = m - j ∧ 1 ≤ j ∧ j ≤ m ∧ r ≤ 1114111 ∧ Hid (it j a = r) ∧ Hid (lpF a b (5 - j) r = LP) ∧ Hid (Below w.heap.size w wx) ∧ wx.heap[w.heap.size]? = some (.stringIter S (pos + K)))
                        case atStart => exact ⟨sf a, 1, rfl, rfl, by omega, hm1, hsf, Lib.hid rfl, Lib.hid HLP.out.symm, HB3, hit4⟩
                        case round =>
                          obtain ⟨r, j, rfl, hgj, hj1, hjm, hr, Hit, Hlp, HBr, hitr⟩ := hrel
                          have Hgj := Lib.hid hgj
                          clear hgj
                          by_cases hra : r = a
                          · as_aux_lemma =>
                              have Hn := Lib.hid (show r = LP by rw [← Hlp.out, lpF_stop _ (fun h => h.1 hra)])
                              have q3 : ((r : Int) != (a : Int)) = false := by rw [bne_eq_false_iff_eq]; omega
                              clear hra
                              go_wp2_with fail
                              go_meet
                              exact ⟨vi (by rw [Hn.out]), HBr, hitr⟩
                          · have q3 : ((r : Int) != (a : Int)) = true := by rw [bne_iff_ne]; omega
                            by_cases hrb : r < b
                            · as_aux_lemma =>
                                have hjm2 : j < m := by
                                  refine Decidable.byContradiction fun h => ?_
                                  have e : j = m := by omega
                                  have h1 := Hit.out
                                  rw [e, Hmit.out] at h1
                                  exact hra h1.symm
                                have hsr := (sf_cyc hr).1
                                have Hit2 := Lib.hid (show it (j + 1) a = sf r by rw [it_succ, Hit.out])
                                have Hlp2 := Lib.hid (show lpF a b (5 - (j + 1)) (sf r) = LP by
                                  rw [← Hlp.out, show 5 - j = (5 - (j + 1)) + 1 by omega, lpF, if_pos ⟨hra, hrb⟩])
                                have Hfr := Lib.hid (fold47 r wr hr (HG.out.later HBr.out))
                                clear hra Hit Hlp
                                go_wp2_with (go_at_call 47; refine Hfr.out.mono ?_; rintro e W4 ⟨rfl, hb4⟩; have HB4 := Lib.hid (HBr.out.trans (hb4.mono HBr.out.size)); have hit5 := (hb4.block _ (Array.getElem?_eq_some_iff.1 hitr).1).trans hitr; clear hb4)
                                go_roundg (m - (j + 1))
                                case measure => have := Hgj.out; omega
                                case rel => exact ⟨sf r, j + 1, rfl, rfl, by omega, by omega, hsr, Hit2, Hlp2, HB4, hit5⟩
                            · as_aux_lemma =>
                                have Hn := Lib.hid (show r = LP by rw [← Hlp.out, lpF_stop _ (fun h => hrb h.2)])
                                clear hra
                                go_wp2_with fail
                                go_meet
                                exact ⟨vi (by rw [Hn.out]), HBr, hitr⟩
                    case rest =>
                      obtain ⟨rfl, HBc, hitc⟩ := hcut
                      by_cases hh : LP = b
                      · as_aux_lemma =>
                          have Hn := Lib.hid (show V = eqU S g' (pos + K) T2 by rw [HVr5.out, if_pos hh])
                          have q4 : ((LP : Int) == (b : Int)) = true := by rw [beq_iff_eq]; omega
                          clear HVr5 HLP hh
                          go_wp2_with fail
                          go_roundg g'
                          case measure => omega
                          case rel => exact ⟨T2, pos + K, rfl, hitc, HBc, Hn, by omega, hdw.2, hT2s⟩
                      · as_aux_lemma =>
                          have Hn := Lib.hid (show V = false by rw [HVr5.out, if_neg hh])
                          have q4 : ((LP : Int) == (b : Int)) = false := by rw [beq_eq_false_iff_ne]; omega
                          clear HVr5 HLP hh
                          go_wp2_with fail
                          rw [Exit.noGoto_ret]
                          go_ret
                          exact ⟨(show Ending.returned (.bool false) = .returned (.bool V) by rw [Hn.out]), HBc.out⟩
          · as_aux_lemma =>
              have e : pos = S.size := by omega
              have hnx : ∀ ty, (Instr.next (.pointer (some ⟨w.heap.size, 0, none⟩)) true ty).run Tryz.prog wr = _ := fun ty => Lib.run_next_end_at wr w.heap.size S pos ty hit hlt
              have hn : V = decide (T'.size = 0) := by rw [HVr.out, eqU_end hlt]
              have Hn := Lib.hid hn
              have hsz := (Array.getElem?_eq_some_iff.1 hit).1
              have hbwe := hbw.out
              subst e
              clear hn HVr hit
              go_wp2_with fail
              rw [Exit.noGoto_ret]
              go_ret
              refine ⟨(show Ending.returned (.bool ((T'.size : Int) == ((0 : Nat) : Int))) = .returned (.bool V) by rw [Hn.out, int_beq_nat]), hbwe⟩
      · have h128 : ¬ ((128 : Int) ≤ ((c ||| d : Nat) : Int)) := by omega
        have hV2 : V = if byteEq c d then eqA s t g (i + 1) else false := by rw [HI2.out, if_neg hu]
        have HV2 := Lib.hid hV2
        clear hV2 hu H0 HI2
        have c7 : c < 256 := hc
        have d7 : d < 256 := hd
        by_cases he : d = c
        · as_aux_lemma =>
            have q : ((d : Int) == (c : Int)) = true := by rw [beq_iff_eq]; omega
            have Hn := Lib.hid (show V = eqA s t g (i + 1) by rw [HV2.out, if_pos (by unfold byteEq; rw [if_pos he])])
            clear he
            go_wp2_with fail
            go_roundg g
            case measure => omega
            case rel => exact ⟨rfl, i + 1, by omega, by go_num, Hn⟩
        · have q : ((d : Int) == (c : Int)) = false := by rw [beq_eq_false_iff_ne]; omega
          by_cases hlt : d < c
          · by_cases hy : 65 ≤ d ∧ d ≤ 90 ∧ c = d + 32
            · as_aux_lemma =>
                have Hn := Lib.hid (show V = eqA s t g (i + 1) by rw [HV2.out, if_pos (by unfold byteEq; rw [if_neg he, if_pos hlt]; exact decide_eq_true hy)])
                obtain ⟨y1, y2, y3⟩ := hy
                have q2 : ((c : Int) == (d : Int) + 97 - 65) = true := by rw [beq_iff_eq]; omega
                clear he y3
                go_wp2_with fail
                go_roundg g
                case measure => omega
                case rel => exact ⟨rfl, i + 1, by omega, by go_num, Hn⟩
            · as_aux_lemma =>
                have Hn := Lib.hid (show V = false by rw [HV2.out, if_neg (by unfold byteEq; rw [if_neg he, if_pos hlt, decide_eq_true_iff]; exact hy)])
                clear he
                go_wp2_with fail
                all_goals first
                  | (go_ret; exact ⟨(show Ending.returned (.bool false) = .returned (.bool V) by rw [Hn.out]), Below.refl _ _⟩)
                  | (exfalso; simp only [beq_iff_eq, beq_eq_false_iff_ne, ne_eq] at *; omega)
          · by_cases hy : 65 ≤ c ∧ c ≤ 90 ∧ d = c + 32
            · as_aux_lemma =>
                have Hn := Lib.hid (show V = eqA s t g (i + 1) by rw [HV2.out, if_pos (by unfold byteEq; rw [if_neg he, if_neg hlt]; exact decide_eq_true hy)])
                obtain ⟨y1, y2, y3⟩ := hy
                have q2 : ((d : Int) == (c : Int) + 97 - 65) = true := by rw [beq_iff_eq]; omega
                clear he y3
                go_wp2_with fail
                go_roundg g
                case measure => omega
                case rel => exact ⟨rfl, i + 1, by omega, by go_num, Hn⟩
            · as_aux_lemma =>
                have Hn := Lib.hid (show V = false by rw [HV2.out, if_neg (by unfold byteEq; rw [if_neg he, if_neg hlt, decide_eq_true_iff]; exact hy)])
                clear he
                go_wp2_with fail
                all_goals first
                  | (go_ret; exact ⟨(show Ending.returned (.bool false) = .returned (.bool V) by rw [Hn.out]), Below.refl _ _⟩)
                  | (exfalso; simp only [beq_iff_eq, beq_eq_false_iff_ne, ne_eq] at *; omega)
end Go.Proofs.YtdfbokmjipdolaaGreatDoor
