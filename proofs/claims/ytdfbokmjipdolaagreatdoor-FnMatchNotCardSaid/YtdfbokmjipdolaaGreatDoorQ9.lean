/- Texts of the proof, joined: E1, E2, E3. -/
import Derived.Test.YtdfbokmjipdolaaGreatDoorD11
import Derived.Test.YtdfbokmjipdolaaGreatDoorQ8
import Derived.Laws.BytesArg
import Derived.Lib.ConvBytes
import Derived.Outline
set_option linter.unusedVariables false
set_option linter.unusedSimpArgs false
/- The light parser's small functions: underscores, fold, form. -/
namespace Go.Proofs.YtdfbokmjipdolaaGreatDoor
open Go.RowKit

theorem ne_list {s : ByteArray} (h0 : 0 < s.size) : s.toList.isEmpty = false ∧ ¬ s.toList = [] := by
  have h : ¬ s.toList = [] := by
    intro h
    rw [ByteArray.toList_eq] at h
    have h2 := congrArg List.length h
    rw [Array.length_toList, List.length_nil] at h2
    have e : s.data.size = s.size := rfl
    omega
  exact ⟨by cases hl : s.toList with | nil => exact absurd hl h | cons _ _ => rfl, h⟩
set_option maxRecDepth 100000 in
set_option maxHeartbeats 4000000 in
theorem under89_any (s : ByteArray) (w : World) (hs : s.size ≤ 400) (h0 : 0 < s.size) : Calls Tryz.prog 89 #[.string s] w fun e w' => e = .returned (.bool (uOk (bsN s))) ∧ w = w' := by
  obtain ⟨B, hB⟩ : ∃ B, B = hasSign (bsN s) := ⟨_, rfl⟩
  have HB := Lib.hid hB
  obtain ⟨hne, hne2⟩ := ne_list h0
  clear hB
  go_enter Tryz.func89, Tryz.ntmps89
  go_upto_region 1 with fail
  go_cut [18] (fun v w1 => v = .bool B ∧ w1 = w)
  case first =>
    go_wp2_with fail
    · go_meet
      exact ⟨sign_of HB.out (sign_yes _ ‹_›), rfl⟩
    · go_meet
      exact ⟨sign_of HB.out (sign_else _), rfl⟩
  case rest =>
    obtain ⟨rfl, rfl⟩ := hcut
    go_upto_if 18 with fail
    go_cut [0] (fun v w1 => ∃ t : ByteArray, v = .string t ∧ bsN t = unsign (bsN s) ∧ t.size ≤ 400 ∧ w1 = wc)
    case first =>
      cases B
      · go_wp2_with fail
        go_meet
        exact ⟨s, rfl, by rw [unsign_eq, ← HB.out]; rfl, hs, rfl⟩
      · have h1 : 1 ≤ s.size := h0
        go_wp2_with fail
        go_meet
        exact ⟨_, rfl, by rw [unsign_eq, ← HB.out, bsN_extract]; simp, by simp; omega, rfl⟩
    case rest =>
      obtain ⟨t, rfl, ht, htl, rfl⟩ := hcut
      have Ht := Lib.hid ht
      clear ht
      obtain ⟨C, hC⟩ : ∃ C, C = uPre (bsN t) := ⟨_, rfl⟩
      have HC := Lib.hid hC
      clear hC
      go_upto_region 4 with fail
      go_cut [46] (fun v w1 => v = .bool C ∧ w1 = wc)
      case first =>
        go_wp2_with (go_at_call 85; refine (lower85_any _ _ (UInt8.toNat_lt _)).mono ?_; rintro e w' ⟨rfl, rfl⟩)
        · go_meet
          exact ⟨pre_case C t _ HC.out (uPre_b _ _ ‹_› ‹_›), rfl⟩
        · go_meet
          exact ⟨pre_case C t _ HC.out (uPre_o _ _ ‹_› ‹_›), rfl⟩
        · go_meet
          exact ⟨pre_case C t _ HC.out (uPre_x _ _ ‹_›), rfl⟩
        · go_meet
          exact ⟨pre_case C t _ HC.out (uPre_no _ ‹_› ‹_›), rfl⟩
        · go_meet
          exact ⟨pre_case C t _ HC.out (uPre_sh ‹_›), rfl⟩
      case rest =>
        obtain ⟨rfl, rfl⟩ := hcut
        go_upto_if 46 with fail
        go_cut [0, 3, 4] (fun s0 s3 s4 w1 => ∃ (t2 : ByteArray) (last : Nat) (hx : Bool), s0 = .string t2 ∧ t2.size ≤ 400 ∧ s3 = .int .u8 last ∧ last < 100 ∧ s4 = .bool hx ∧ uLast hx (bsN t2) last = uOk (bsN s) ∧ w1 = wc)
        case first =>
          cases C
          · go_wp2_with fail
            go_meet
            refine ⟨t, 94, false, rfl, htl, rfl, by decide, rfl, ?_, rfl⟩
            unfold uOk uBody
            rw [← Ht.out, ← HC.out]; simp
          · have h2 : 2 ≤ t.size := by
              refine Decidable.byContradiction fun h => ?_
              have := HC.out
              rw [uPre_short (by omega)] at this; simp at this
            go_wp2_with (go_at_call 85; refine (lower85_any _ _ (UInt8.toNat_lt _)).mono ?_; rintro e w' ⟨rfl, rfl⟩)
            go_meet
            refine ⟨_, 48, _, rfl, ?_, rfl, by decide, rfl, ?_, rfl⟩
            · simp; omega
            · unfold uOk uBody
              rw [← Ht.out, ← HC.out, bsN_get (show 1 < t.size by omega), bsN_extract]
              simp
              congr 1
              apply decide_eq_decide.2; omega
        case rest =>
          obtain ⟨t2, last0, hx, rfl, ht2, rfl, hl0, rfl, hu0, rfl⟩ := hcut
          have Hu := Lib.hid hu0
          clear hu0
          go_wp2_with fail
          go_loopg [3, 5] t2.size (fun g s3 s5 w1 => ∃ k last : Nat, k ≤ t2.size ∧ g = t2.size - k ∧ s5 = .int .i64 k ∧ s3 = .int .u8 last ∧ last < 100 ∧ Hid (uLast hx ((bsN t2).drop k) last = uOk (bsN s)) ∧ w1 = wc)
          case atStart => exact ⟨0, last0, Nat.zero_le _, rfl, rfl, rfl, hl0, Hu, rfl⟩
          case round =>
            obtain ⟨k, last, hk, hg, rfl, rfl, hl, HR, rfl⟩ := hrel
            have Hg := Lib.hid hg
            clear hg
            by_cases hlt : k < t2.size
            · obtain ⟨G, hG⟩ : ∃ G, G = isDg hx t2[k].toNat := ⟨_, rfl⟩
              have HG := Lib.hid hG
              clear hG
              have hc : t2[k].toNat < 256 := UInt8.toNat_lt _
              have HR2 := Lib.hid (HR.out.symm.trans (by rw [bsN_drop t2 k hlt, uLast_cons, ← HG.out]))
              go_upto_region 12 with fail
              go_cut [62] (fun v w1 => v = .bool G ∧ w1 = wr)
              case first =>
                cases hx
                · go_wp2_with (go_at_call 85; refine (lower85_any _ _ (UInt8.toNat_lt _)).mono ?_; rintro e w' ⟨rfl, rfl⟩)
                  all_goals (go_meet; refine ⟨?_, rfl⟩; rw [HG.out]; refine congrArg Value.bool ?_; unfold isDg; rw [Bool.eq_iff_iff]; simp; omega)
                · go_wp2_with (go_at_call 85; refine (lower85_any _ _ (UInt8.toNat_lt _)).mono ?_; rintro e w' ⟨rfl, rfl⟩)
                  all_goals (go_meet; refine ⟨?_, rfl⟩; rw [HG.out]; refine congrArg Value.bool ?_; unfold isDg; rw [Bool.eq_iff_iff]; simp; omega)
              case rest =>
                obtain ⟨rfl, rfl⟩ := hcut
                have e := HR2.out
                cases G
                · rw [if_neg (by simp)] at e
                  by_cases q1 : t2[k].toNat = 95
                  · rw [if_pos q1] at e
                    have p1 : ((t2[k].toNat : Int) == 95) = true := by rw [beq_iff_eq]; omega
                    have p1' : ((t2[k].toNat : Int) != 95) = false := by rw [bne_eq_false_iff_eq]; omega
                    by_cases q2 : last = 48
                    · rw [if_pos q2] at e
                      have p2 : ((last : Int) != 48) = false := by rw [bne_eq_false_iff_eq]; omega
                      have He := Lib.hid e
                      clear e q1 q2
                      go_wp2_with fail
                      go_roundg (t2.size - (k + 1))
                      case measure => have := Hg.out; omega
                      case rel => exact ⟨k + 1, 95, by omega, rfl, by go_num, rfl, by decide, Lib.hid He.out.symm, rfl⟩
                    · rw [if_neg q2] at e
                      have p2 : ((last : Int) != 48) = true := by rw [bne_iff_ne]; omega
                      have He := Lib.hid e
                      clear e q1 q2
                      go_wp2_with fail
                      go_ret
                      exact ⟨by rw [He.out]; rfl, rfl⟩
                  · rw [if_neg q1] at e
                    have p1 : ((t2[k].toNat : Int) == 95) = false := by rw [beq_eq_false_iff_ne]; omega
                    have p1' : ((t2[k].toNat : Int) != 95) = true := by rw [bne_iff_ne]; omega
                    by_cases q2 : last = 95
                    · rw [if_pos q2] at e
                      have p2 : ((last : Int) == 95) = true := by rw [beq_iff_eq]; omega
                      have He := Lib.hid e
                      clear e q1 q2
                      go_wp2_with fail
                      go_ret
                      exact ⟨by rw [He.out]; rfl, rfl⟩
                    · rw [if_neg q2] at e
                      have p2 : ((last : Int) == 95) = false := by rw [beq_eq_false_iff_ne]; omega
                      have He := Lib.hid e
                      clear e q1 q2
                      go_wp2_with fail
                      go_roundg (t2.size - (k + 1))
                      case measure => have := Hg.out; omega
                      case rel => exact ⟨k + 1, 33, by omega, rfl, by go_num, rfl, by decide, Lib.hid He.out.symm, rfl⟩
                · rw [if_pos rfl] at e
                  have He := Lib.hid e
                  clear e
                  go_wp2_with fail
                  go_roundg (t2.size - (k + 1))
                  case measure => have := Hg.out; omega
                  case rel => exact ⟨k + 1, 48, by omega, rfl, by go_num, rfl, by decide, Lib.hid He.out.symm, rfl⟩
            · have e := HR.out
              rw [bsN_drop_end t2 k (by omega)] at e
              have He := Lib.hid (show (last != 95) = uOk (bsN s) by rw [← e]; simp [uLast, bne]; rfl)
              clear e
              go_wp2_with fail
              go_ret
              refine ⟨?_, rfl⟩
              rw [← He.out]
              refine congrArg (fun b => Ending.returned (Value.bool b)) ?_
              rw [Bool.eq_iff_iff]; simp; omega
end Go.Proofs.YtdfbokmjipdolaaGreatDoor
/- The light parser's small functions: underscores, fold, form, fail. -/
namespace Go.Proofs.YtdfbokmjipdolaaGreatDoor
open Go.RowKit

/-- underscores stand well, where there is one -/
def uSc (l : List Nat) : Bool := if 95 ∈ l then uOk l else true
set_option maxRecDepth 100000 in
theorem unders_any (s : ByteArray) (w : World) (hs : s.size ≤ 400) : Calls Tryz.prog 54 #[.string s] w fun e w' => e = .returned (.bool (uSc (bsN s))) ∧ w = w' := by
  go_enter Tryz.func54, Tryz.ntmps54
  go_wp2_with fail
  go_loopg [3] s.size (fun g s3 wx => ∃ k : Nat, k ≤ s.size ∧ g = s.size - k ∧ s3 = .int .i64 k ∧ Hid (95 ∈ (bsN s).drop k ↔ 95 ∈ bsN s) ∧ wx = w)
  case atStart => exact ⟨0, Nat.zero_le _, rfl, rfl, Lib.hid (by rw [List.drop_zero]), rfl⟩
  case round =>
    obtain ⟨k, hk, hg, rfl, HR, rfl⟩ := hrel
    have Hg := Lib.hid hg
    clear hg
    by_cases hlt : k < s.size
    · have hD := bsN_drop s k hlt
      by_cases h95 : s[k].toNat = 95
      · have q : ((s[k].toNat : Int) == 95) = true := by rw [beq_iff_eq]; omega
        have hin : 95 ∈ bsN s := HR.out.1 (by rw [hD, h95]; exact List.mem_cons_self)
        have He := Lib.hid (show uSc (bsN s) = uOk (bsN s) from if_pos hin)
        have Hc := Lib.hid (under89_any s wr hs (by omega))
        clear hin hD h95
        go_wp2_with fail
        refine Hc.out.mono ?_
        rintro e w' ⟨rfl, rfl⟩
        go_wp2_with fail
        go_ret
        exact ⟨by rw [He.out]; rfl, rfl⟩
      · have q : ((s[k].toNat : Int) == 95) = false := by rw [beq_eq_false_iff_ne]; omega
        have HR2 := Lib.hid (show 95 ∈ (bsN s).drop (k + 1) ↔ 95 ∈ bsN s by
          rw [← HR.out, hD, List.mem_cons]
          constructor
          · intro h; exact Or.inr h
          · intro h; rcases h with h | h
            · exact absurd h.symm h95
            · exact h)
        clear hD h95
        go_wp2_with fail
        go_roundg (s.size - (k + 1))
        case measure => have := Hg.out; omega
        case rel => exact ⟨k + 1, by omega, rfl, by go_num, HR2, rfl⟩
    · have He := Lib.hid (show uSc (bsN s) = true from if_neg (fun h => by
        have := HR.out.2 h
        rw [bsN_drop_end s k (by omega)] at this
        cases this))
      go_wp2_with fail
      go_ret
      exact ⟨by rw [He.out]; rfl, rfl⟩

/-- equal but for the case of ASCII letters (m: lower) -/
def foldB (l m : List Nat) : Bool := decide (l.map lowc = m)
theorem fold_at {s t : ByteArray} {k : Nat} (h : k < s.size) (h2 : k < t.size) : (((bsN s).map lowc).take k = (bsN t).take k → lowc s[k].toNat = t[k].toNat → ((bsN s).map lowc).take (k + 1) = (bsN t).take (k + 1)) ∧ (¬ lowc s[k].toNat = t[k].toNat → foldB (bsN s) (bsN t) = false) := by
  have l1 : k < ((bsN s).map lowc).length := by rw [List.length_map, bsN_len]; exact h
  have l2 : k < (bsN t).length := by rw [bsN_len]; exact h2
  have g1 : ((bsN s).map lowc)[k] = lowc s[k].toNat := by
    rw [List.getElem_map]
    congr 1
    have := bsN_get h
    rw [List.getElem?_eq_getElem (by rw [bsN_len]; exact h), Option.getD_some] at this
    exact this
  have g2 : (bsN t)[k] = t[k].toNat := by
    have := bsN_get h2
    rw [List.getElem?_eq_getElem l2, Option.getD_some] at this
    exact this
  constructor
  · intro h3 h4
    rw [List.take_succ_eq_append_getElem l1, List.take_succ_eq_append_getElem l2, h3, g1, g2, h4]
  · intro h3
    refine decide_eq_false (fun he => h3 ?_)
    rw [← g1, ← g2]
    congr 1
set_option maxRecDepth 100000 in
theorem fold_any (s t : ByteArray) (w : World) (hs : s.size ≤ 400) (ht : t.size ≤ 400) : Calls Tryz.prog 48 #[.string s, .string t] w fun e w' => e = .returned (.bool (foldB (bsN s) (bsN t))) ∧ w = w' := by
  by_cases hl : s.size = t.size
  · have q0 : ((s.size : Int) != (t.size : Int)) = false := by rw [bne_eq_false_iff_eq]; omega
    have Hl := Lib.hid hl
    have hle : s.size ≤ t.size := by omega
    clear hl
    go_enter Tryz.func48, Tryz.ntmps48
    go_wp2_with fail
    go_loopg [5] s.size (fun g s5 wx => ∃ k : Nat, k ≤ s.size ∧ g = s.size - k ∧ s5 = .int .i64 k ∧ Hid (((bsN s).map lowc).take k = (bsN t).take k) ∧ wx = w)
    case atStart => exact ⟨0, Nat.zero_le _, rfl, rfl, Lib.hid rfl, rfl⟩
    case round =>
      obtain ⟨k, hk, hg, rfl, HR, rfl⟩ := hrel
      have Hg := Lib.hid hg
      clear hg
      by_cases hlt : k < s.size
      · have hlt2 : k < t.size := by omega
        have hkey := fold_at hlt hlt2
        have hc : s[k].toNat < 256 := UInt8.toNat_lt _
        have hd : t[k].toNat < 256 := UInt8.toNat_lt _
        have HK := Lib.hid hkey
        clear hkey
        by_cases hup : 65 ≤ s[k].toNat ∧ s[k].toNat ≤ 90
        · obtain ⟨u1, u2⟩ := hup
          have el : lowc s[k].toNat = s[k].toNat + 32 := if_pos ⟨u1, u2⟩
          have Hel := Lib.hid el
          clear el
          by_cases he : s[k].toNat + 32 = t[k].toNat
          · as_aux_lemma =>
              have q : (((s[k].toNat : Int) + 32) != (t[k].toNat : Int)) = false := by rw [bne_eq_false_iff_eq]; omega
              have Hn := Lib.hid (HK.out.1 HR.out (by rw [Hel.out]; exact he))
              clear he
              go_wp2_with fail
              go_roundg (s.size - (k + 1))
              case measure => have := Hg.out; omega
              case rel => exact ⟨k + 1, by omega, rfl, by go_num, Hn, rfl⟩
          · as_aux_lemma =>
              have q : (((s[k].toNat : Int) + 32) != (t[k].toNat : Int)) = true := by rw [bne_iff_ne]; omega
              have Hn := Lib.hid (HK.out.2 (by rw [Hel.out]; exact he))
              clear he
              go_wp2_with fail
              go_ret
              exact ⟨by rw [Hn.out]; rfl, rfl⟩
        · have el : lowc s[k].toNat = s[k].toNat := if_neg hup
          have Hel := Lib.hid el
          clear el
          have hcond : s[k].toNat < 65 ∨ 90 < s[k].toNat := by omega
          clear hup
          by_cases he : s[k].toNat = t[k].toNat
          · have q : ((s[k].toNat : Int) != (t[k].toNat : Int)) = false := by rw [bne_eq_false_iff_eq]; omega
            have Hn := Lib.hid (HK.out.1 HR.out (by rw [Hel.out]; exact he))
            clear he
            rcases hcond with h1 | h1
            · as_aux_lemma =>
                go_wp2_with fail
                go_roundg (s.size - (k + 1))
                case measure => have := Hg.out; omega
                case rel => exact ⟨k + 1, by omega, rfl, by go_num, Hn, rfl⟩
            · as_aux_lemma =>
                go_wp2_with fail
                go_roundg (s.size - (k + 1))
                case measure => have := Hg.out; omega
                case rel => exact ⟨k + 1, by omega, rfl, by go_num, Hn, rfl⟩
          · have q : ((s[k].toNat : Int) != (t[k].toNat : Int)) = true := by rw [bne_iff_ne]; omega
            have Hn := Lib.hid (HK.out.2 (by rw [Hel.out]; exact he))
            clear he
            rcases hcond with h1 | h1
            · as_aux_lemma =>
                go_wp2_with fail
                go_ret
                exact ⟨by rw [Hn.out]; rfl, rfl⟩
            · as_aux_lemma =>
                go_wp2_with fail
                go_ret
                exact ⟨by rw [Hn.out]; rfl, rfl⟩
      · have He := Lib.hid (show foldB (bsN s) (bsN t) = true from decide_eq_true (by
          have h1 := HR.out
          rw [List.take_of_length_le (by rw [List.length_map, bsN_len]; omega), List.take_of_length_le (by rw [bsN_len]; have := Hl.out; omega)] at h1
          exact h1))
        go_wp2_with fail
        go_ret
        exact ⟨by rw [He.out]; rfl, rfl⟩
  · have q0 : ((s.size : Int) != (t.size : Int)) = true := by rw [bne_iff_ne]; omega
    have He := Lib.hid (show foldB (bsN s) (bsN t) = false from decide_eq_false (fun h => hl (by
      have := congrArg List.length h
      rw [List.length_map, bsN_len, bsN_len] at this
      exact this)))
    go_enter Tryz.func48, Tryz.ntmps48
    go_wp2_with fail
    go_ret
    exact ⟨by rw [He.out]; rfl, rfl⟩
end Go.Proofs.YtdfbokmjipdolaaGreatDoor
/- The light parser's FormatUint at base 10: the decimal digits. -/
namespace Go.Proofs.YtdfbokmjipdolaaGreatDoor
open Go.RowKit

def ddF : Nat → Nat → List Nat
  | 0, n => [n % 10]
  | f + 1, n => if n < 10 then [n] else ddF f (n / 10) ++ [n % 10]
/-- the decimal digits of a number -/
def dd (n : Nat) : List Nat := ddF 19 n
theorem ddF_fuel : ∀ (f n : Nat), n < 10 ^ (f + 1) → ddF f n = ddF (f + 1) n
  | 0, n, h => by
    have : n < 10 := by simpa using h
    rw [ddF, ddF, if_pos this, Nat.mod_eq_of_lt this]
  | f + 1, n, h => by
    rw [ddF]
    conv => rhs; rw [ddF]
    split
    · rfl
    · rw [ddF_fuel f (n / 10) (by rw [Nat.pow_succ] at h; omega)]
theorem dd_step (n : Nat) (h : n < 10 ^ 20) : dd n = if n < 10 then [n] else dd (n / 10) ++ [n % 10] := by
  unfold dd
  rw [ddF]
  split
  · rfl
  · rw [ddF_fuel 18 (n / 10) (by omega)]
theorem ddF_len : ∀ (f n : Nat), (ddF f n).length ≤ f + 1 ∧ 1 ≤ (ddF f n).length
  | 0, n => by simp [ddF]
  | f + 1, n => by
    rw [ddF]
    split
    · simp
    · have := ddF_len f (n / 10); simp; omega
theorem ddF_dig : ∀ (f n : Nat), ∀ x ∈ ddF f n, x < 10
  | 0, n => by simp [ddF]; omega
  | f + 1, n => by
    rw [ddF]
    split
    · simp; omega
    · intro x hx
      rcases List.mem_append.1 hx with hx | hx
      · exact ddF_dig f _ x hx
      · rw [List.mem_singleton.1 hx]; omega
theorem ddF_num : ∀ (f n : Nat), n < 10 ^ (f + 1) → num 10 (ddF f n) = n
  | 0, n, h => by
    have : n < 10 := by simpa using h
    simp [ddF, num, Nat.mod_eq_of_lt this]
  | f + 1, n, h => by
    rw [ddF]
    split
    · simp [num]
    · rw [num_snoc, ddF_num f (n / 10) (by rw [Nat.pow_succ] at h; omega)]; omega
theorem ddF_lead : ∀ (f n : Nat), n < 10 ^ (f + 1) → 0 < n → (ddF f n).head? ≠ some 0
  | 0, n, h, h0 => by
    have : n < 10 := by simpa using h
    simp [ddF, Nat.mod_eq_of_lt this]; omega
  | f + 1, n, h, h0 => by
    rw [ddF]
    split
    · simp; omega
    · have ih := ddF_lead f (n / 10) (by rw [Nat.pow_succ] at h; omega) (by omega)
      have hl := (ddF_len f (n / 10)).2
      cases hd : ddF f (n / 10) with
      | nil => rw [hd] at hl; simp at hl
      | cons x t => rw [hd] at ih; simpa using ih
/-- what is done and what is left of the digits -/
def DP (m n : Nat) (O : List Nat) : Prop := dd m = (if O = [] ∨ 0 < n then dd n else []) ++ O
theorem DP.start (m : Nat) : DP m m [] := by unfold DP; simp
theorem DP.next {m n : Nat} {O : List Nat} (h : DP m n O) (hn : n < 10 ^ 20) (hc : O = [] ∨ 0 < n) : DP m (n / 10) (n % 10 :: O) := by
  unfold DP at *
  rw [if_pos hc, dd_step n hn] at h
  rw [h]
  by_cases h10 : n < 10
  · rw [if_pos h10, if_neg (by simp; omega), Nat.mod_eq_of_lt h10]; rfl
  · rw [if_neg h10, if_pos (Or.inr (by omega))]; simp
theorem DP.len {m n : Nat} {O : List Nat} (h : DP m n O) : O.length ≤ 20 ∧ ((O = [] ∨ 0 < n) → O.length ≤ 19) := by
  unfold DP at h
  have h1 := (ddF_len 19 m).1
  have h2 := congrArg List.length h
  rw [List.length_append] at h2
  have h3 : (dd m).length = (ddF 19 m).length := rfl
  refine ⟨by omega, fun hc => ?_⟩
  rw [if_pos hc] at h2
  have h4 : 1 ≤ (dd n).length := (ddF_len 19 n).2
  omega
theorem DP.done {m : Nat} {O : List Nat} (h : DP m 0 O) (hO : O ≠ []) : dd m = O := by
  unfold DP at h
  rw [if_neg (by simp [hO])] at h
  simpa using h

theorem ix36 (X : Nat) (h : X < 10) (w : World) : (Instr.index 9 (.string ⟨#[48, 49, 50, 51, 52, 53, 54, 55, 56, 57, 97, 98, 99, 100, 101, 102, 103, 104, 105, 106, 107, 108, 109, 110, 111, 112, 113, 114, 115, 116, 117, 118, 119, 120, 121, 122]⟩) (.int .u64 (X : Int))).run Tryz.prog w = .ok (.int .u8 (48 + (X : Int))) w := by
  have : X = 0 ∨ X = 1 ∨ X = 2 ∨ X = 3 ∨ X = 4 ∨ X = 5 ∨ X = 6 ∨ X = 7 ∨ X = 8 ∨ X = 9 := by omega
  rcases this with rfl | rfl | rfl | rfl | rfl | rfl | rfl | rfl | rfl | rfl <;> (show _ = _; kernel_rfl)

structure FA (w : World) (A i : Nat) (O : List Nat) : Prop where
  blk : ∃ cur, w.heap[A]? = some (.cells cur 211 (0, 0)) ∧ cur.size = 64 ∧ ∀ j, j < O.length → cur[i + j]? = some (.int .u8 (48 + (O.getD j 0 : Nat) : Int))
  len : i + O.length = 64
theorem FA.cell {w : World} {A i : Nat} {O : List Nat} (h : FA w A i O) (j : Nat) (hj : j < O.length) : w.cell? ⟨A, i + j, none⟩ = some (.int .u8 (48 + (O.getD j 0 : Nat) : Int)) := by
  obtain ⟨cur, h1, _, h3⟩ := h.blk
  rw [cell_of_row w A (i + j) _ 211 (0, 0) h1]
  exact h3 j hj
theorem FA.any {w : World} {A i : Nat} {O : List Nat} (h : FA w A i O) (j : Nat) (hj : j < 64) : ∃ v, w.cell? ⟨A, j, none⟩ = some v := by
  obtain ⟨cur, h1, h2, h3⟩ := h.blk
  rw [cell_of_row w A j _ 211 (0, 0) h1]
  exact ⟨_, Array.getElem?_eq_getElem (by omega)⟩
theorem FA.frozen {w : World} {A i : Nat} {O : List Nat} (h : FA w A i O) (j : Nat) : w.frozen? ⟨A, j, none⟩ = false := by
  obtain ⟨cur, h1, _⟩ := h.blk
  exact frozen_of_row w A j _ 211 h1
theorem FA.next {w : World} {A i : Nat} {O : List Nat} (h : FA w A (i + 1) O) (x : Nat) : FA (w.setCell ⟨A, i, none⟩ (.int .u8 (48 + (x : Int)))) A i (x :: O) := by
  obtain ⟨cur, h1, h2, h3⟩ := h.blk
  have hl := h.len
  refine ⟨⟨cur.setIfInBounds i (.int .u8 (48 + (x : Int))), heap_setCell_same w A i _ 211 _ h1, by simp [h2], fun j hj => ?_⟩, by simp; omega⟩
  cases j with
  | zero => rw [Nat.add_zero, Array.getElem?_setIfInBounds_self_of_lt (by omega)]; simp
  | succ j =>
    rw [Array.getElem?_setIfInBounds_ne (by omega), show i + (j + 1) = i + 1 + j by omega, h3 j (by simpa using hj)]
    simp
def FUPost (m : Nat) (w : World) (e : Ending) (w' : World) : Prop := ∃ t : ByteArray, e = .returned (.string t) ∧ bsN t = (dd m).map (48 + ·) ∧ Below w.heap.size w w'

set_option maxRecDepth 100000 in
set_option maxHeartbeats 2000000 in
theorem fmtUint_any (m : Nat) (w : World) (hm : m < 18446744073709551616) : Calls Tryz.prog 116 #[.int .u64 m, .int .i64 10] w (FUPost m w) := by
  go_enter Tryz.func116, Tryz.ntmps116
  go_upto_block 0 with fail
  go_cut [0, 6] (fun s0 s6 wx => ∃ (i : Nat), s6 = .int .i64 i ∧ i ≤ 63 ∧ Hid (FA wx w.heap.size i (dd m)) ∧ Hid (Below w.heap.size w wx))
  case first =>
    go_wp2_with fail
    go_loopg [0, 6] 65 (fun gm s0 s6 wx => ∃ (n i : Nat) (O : List Nat), gm = i + 1 ∧ s0 = .int .u64 n ∧ s6 = .int .i64 i ∧ Hid (FA wx w.heap.size i O) ∧ Hid (DP m n O) ∧ n < 18446744073709551616 ∧ Hid (Below w.heap.size w wx) ∧ i ≤ 64 ∧ 44 ≤ i)
    case atStart => exact ⟨m, 64, [], rfl, rfl, rfl, Lib.hid ⟨⟨_, heap_alloc_new w _, rfl, fun j hj => by cases hj⟩, rfl⟩, Lib.hid (DP.start m), hm, Lib.hid ((Below.refl _ _).alloc (Nat.le_refl _) _), by omega, by omega⟩
    case round =>
      obtain ⟨n, i, O, hg, rfl, rfl, hF, hD, hn, hB, hi, hi2⟩ := hrel
      have Hg := Lib.hid hg
      clear hg
      obtain ⟨X, hX⟩ : ∃ X, X = n % 10 := ⟨_, rfl⟩
      have bX : X < 10 := by omega
      have eX : (n : Int) % 10 = X := by omega
      have HX := Lib.hid hX
      have q := ix36 X bX
      by_cases hc : i = 64 ∨ 0 < n
      · have hO : O = [] ∨ 0 < n := by
          rcases hc with h | h
          · left; exact List.length_eq_zero_iff.1 (by have := hF.out.len; omega)
          · exact Or.inr h
        have hlen := (hD.out.len).2 hO
        have hnx := hD.out.next (by omega) hO
        have hfl := hF.out.len
        obtain ⟨j, hj⟩ : ∃ j, i = j + 1 := ⟨i - 1, by omega⟩
        have ej : (i : Int) - 1 = j := by omega
        have bj : j < 64 := by omega
        have bj2 : 44 ≤ j := by omega
        obtain ⟨v, cj⟩ := hF.out.any j bj
        have fj := hF.out.frozen j
        have hF2 := hF.out
        rw [hj] at hF2
        have HF2 := Lib.hid (hF2.next X)
        rw [← hX] at hnx
        have Hnx := Lib.hid hnx
        have Hj := Lib.hid hj
        clear hF2 hnx hlen hO hfl hj hX
        by_cases h64 : i = 64
        · as_aux_lemma =>
            have q0 : ((i : Int) == 64) = true := by rw [beq_iff_eq]; omega
            clear hc h64
            go_wp2_with fail
            go_roundg (j + 1)
            case measure => have := Hg.out; have := Hj.out; omega
            case rel => exact ⟨n / 10, j, X :: O, rfl, by go_num, rfl, HF2, Hnx, by omega, Lib.hid (hB.out.setCell (p := ⟨w.heap.size, j, none⟩) (Nat.le_refl _) _), by omega, bj2⟩
        · as_aux_lemma =>
            have q0 : ((i : Int) == 64) = false := by rw [beq_eq_false_iff_ne]; omega
            have hn0 : 0 < n := by omega
            clear hc h64
            go_wp2_with fail
            go_roundg (j + 1)
            case measure => have := Hg.out; have := Hj.out; omega
            case rel => exact ⟨n / 10, j, X :: O, rfl, by go_num, rfl, HF2, Hnx, by omega, Lib.hid (hB.out.setCell (p := ⟨w.heap.size, j, none⟩) (Nat.le_refl _) _), by omega, bj2⟩
      · as_aux_lemma =>
          have e0 : n = 0 := by omega
          subst e0
          have q0 : ((i : Int) == 64) = false := by rw [beq_eq_false_iff_ne]; omega
          have hO : O ≠ [] := by
            intro h
            have := hF.out.len
            rw [h, List.length_nil] at this
            omega
          have He := Lib.hid (hD.out.done hO)
          have bi : i ≤ 63 := by omega
          clear hc hX hO q eX
          go_wp2_with fail
          go_meet
          exact ⟨i, rfl, bi, by rw [He.out]; exact hF, hB⟩
  case rest =>
    obtain ⟨i, rfl, bi, hF, hB⟩ := hcut
    have hlen := hF.out.len
    obtain ⟨L, hL⟩ : ∃ L, L = (dd m).length := ⟨_, rfl⟩
    rw [← hL] at hlen
    have hdig := ddF_dig 19 m
    have hconv : ∀ cap dst, Tryz.prog.underlying dst = some .string → (convert 73 dst (.slice (some ⟨w.heap.size, i, none⟩) L cap)).run Tryz.prog wc = .ok (.string (strOfNums ((dd m).map fun (d : Nat) => 48 + (d : Int)))) wc := fun cap dst hd =>
      run_convert_bytes_arg wc 73 5 Tryz.underlying73 Tryz.underlying5 w.heap.size i L cap _ (by rw [List.length_map, hL]) (fun j hj => by
        rw [hF.out.cell j (by omega)]
        congr 2
        simp [List.getD_eq_getElem?_getD, List.getElem?_map, List.getElem?_eq_getElem (show j < (dd m).length by omega)]) dst hd
    have hsl : ∀ wx, Sem.run Tryz.prog (Instr.sliceAt 211 (.pointer (some ⟨w.heap.size, 0, none⟩)) (some (.int .i64 (i : Int))) none none) wx = .ok (.slice (some ⟨w.heap.size, i, none⟩) (64 - i) (64 - i)) wx := fun wx => by
      have hl : Tryz.prog.arrayLen 211 = 64 := by kernel_rfl
      rw [run_sliceAt_array_l wx 211 _ (by kernel_rfl) .i64 i (by omega) (by rw [hl]; omega), hl]
      have hz : (sizeOf (Tryz.prog.elem 211)).run Tryz.prog wx = .ok 1 wx := by kernel_rfl
      rw [hz]
      simp [slicedAt, Addr.add, Result.andThen]
      rw [if_neg (by omega)]
      split
      · rename_i h; rw [h]
      · rfl
    have hc := hconv (64 - i) 9 Tryz.underlying9
    have eL : L = 64 - i := by omega
    rw [eL] at hc
    clear hconv hL hlen eL
    go_wp2_with fail
    go_ret
    refine ⟨_, rfl, ?_, hB.out⟩
    unfold bsN
    rw [strOfNums_data, List.map_map, List.map_map]
    refine List.map_congr_left fun d hd => ?_
    have := hdig d hd
    simp only [Function.comp]
    rw [show (48 + (d : Int)).toNat = 48 + d by omega]
    exact UInt8.toNat_ofNat_of_lt' (by show 48 + d < 256; omega)
end Go.Proofs.YtdfbokmjipdolaaGreatDoor
