/- underscoreOK of Go's own strconv: what it says is uOk of the bytes. -/
import Derived.Test.YtdfbokmjipdolaaGreatDoorB4
import Derived.Deep.DeepCutAuto
import Derived.Deep.CutBlock
import Derived.Lib.Strings
set_option linter.unusedVariables false
set_option linter.unusedSimpArgs false
namespace Go.Proofs.YtdfbokmjipdolaaGreatDoor
open Go.RowKit

def hasSign (l : List Nat) : Bool := l.head? == some 43 || l.head? == some 45
theorem unsign_eq (l : List Nat) : unsign l = if hasSign l then l.tail else l := by
  unfold unsign hasSign
  by_cases h : l.head? = some 43 ∨ l.head? = some 45
  · rw [if_pos h]; rcases h with h | h <;> simp [h]
  · rw [if_neg h, if_neg]; simpa using h
theorem bsN_nil {s : ByteArray} (h : s.size = 0) : bsN s = [] := List.length_eq_zero_iff.1 (by rw [bsN_len, h])
theorem bsN_cons {s : ByteArray} (h : 0 < s.size) : bsN s = s[0].toNat :: (bsN s).tail := by
  have := bsN_drop s 0 h
  rw [List.drop_zero] at this
  conv => lhs; rw [this]
  simp
theorem bsN_get {s : ByteArray} {k : Nat} (h : k < s.size) : (bsN s)[k]?.getD 0 = s[k].toNat := by
  have h1 : k < (bsN s).length := by rw [bsN_len]; exact h
  rw [List.getElem?_eq_getElem h1, Option.getD_some]
  simp only [bsN, List.getElem_map]
  rfl
theorem bsN_extract (s : ByteArray) (a : Nat) : bsN (s.extract a s.size) = (bsN s).drop a := by
  simp only [bsN, Lib.extract_data, List.map_drop, List.map_take]
  rw [List.take_of_length_le]
  simp
theorem bsN_take (s : ByteArray) (a : Nat) : bsN (s.extract 0 a) = (bsN s).take a := by
  simp only [bsN, Lib.extract_data, List.map_drop, List.map_take]
  simp

theorem uPre_short {t : ByteArray} (h : t.size < 2) : uPre (bsN t) = false := by
  unfold uPre; rw [bsN_len]; simp; omega
theorem uPre_long {t : ByteArray} (h : 2 ≤ t.size) : uPre (bsN t) = (decide (t[0].toNat = 48) && (decide (lw t[1].toNat = 98) || decide (lw t[1].toNat = 111) || decide (lw t[1].toNat = 120))) := by
  unfold uPre; rw [bsN_len, bsN_get (show 0 < t.size by omega), bsN_get (show 1 < t.size by omega)]
  have : decide (2 ≤ t.size) = true := by simpa using h
  rw [this, Bool.true_and]
  rfl
theorem sign_of {s : ByteArray} {B : Bool} {x : Bool} (HB : B = hasSign (bsN s)) (h : x = hasSign (bsN s)) : Value.bool x = Value.bool B := by rw [HB, h]
theorem sign_yes {s : ByteArray} (h0 : 0 < s.size) (q : ((s[0]'h0).toNat : Int) = 45) : true = hasSign (bsN s) := by
  have q' : s[0].toNat = 45 := by omega
  rw [bsN_cons h0]; simp [hasSign, q']
theorem sign_else {s : ByteArray} (h0 : 0 < s.size) : (((s[0]'h0).toNat : Int) == 45 || ((s[0]'h0).toNat : Int) == 43) = hasSign (bsN s) := by
  rw [bsN_cons h0, Bool.eq_iff_iff]; simp [hasSign]; omega
theorem sign_nil {s : ByteArray} (h0 : (s.size : Int) < 1) : false = hasSign (bsN s) := by rw [bsN_nil (by omega)]; rfl
theorem uPre_b {t : ByteArray} (h0 : 0 < t.size) (h1 : 1 < t.size) (q0 : ((t[0]'h0).toNat : Int) = 48) (q1 : (lw (t[1]'h1).toNat : Int) = 98) : true = uPre (bsN t) := by
  rw [uPre_long (by omega)]; simp [show t[0].toNat = 48 by omega, show lw t[1].toNat = 98 by omega]
theorem uPre_o {t : ByteArray} (h0 : 0 < t.size) (h1 : 1 < t.size) (q0 : ((t[0]'h0).toNat : Int) = 48) (q1 : (lw (t[1]'h1).toNat : Int) = 111) : true = uPre (bsN t) := by
  rw [uPre_long (by omega)]; simp [show t[0].toNat = 48 by omega, show lw t[1].toNat = 111 by omega]
theorem uPre_x {t : ByteArray} (h0 : 0 < t.size) (h1 : 1 < t.size) (q0 : ((t[0]'h0).toNat : Int) = 48) : ((lw (t[1]'h1).toNat : Int) == 98 || (lw (t[1]'h1).toNat : Int) == 111 || (lw (t[1]'h1).toNat : Int) == 120) = uPre (bsN t) := by
  rw [uPre_long (by omega), Bool.eq_iff_iff]; simp [show t[0].toNat = 48 by omega]; omega
theorem uPre_no {t : ByteArray} (h0 : 0 < t.size) (h2 : (2 : Int) ≤ t.size) (q0 : ¬ ((t[0]'h0).toNat : Int) = 48) : false = uPre (bsN t) := by
  rw [uPre_long (by omega)]; simp [show ¬ t[0].toNat = 48 by omega]
theorem uPre_sh {t : ByteArray} (h2 : (t.size : Int) < 2) : false = uPre (bsN t) := by rw [uPre_short (by omega)]
/-- a digit, or a hexadecimal one -/
def isDg (hx : Bool) (c : Nat) : Bool := decide ((48 ≤ c ∧ c ≤ 57) ∨ (hx = true ∧ 97 ≤ lw c ∧ lw c ≤ 102))
theorem uLast_cons (hx : Bool) (c last : Nat) (r : List Nat) : uLast hx (c :: r) last = if isDg hx c = true then uLast hx r 48 else if c = 95 then (if last = 48 then uLast hx r 95 else false) else if last = 95 then false else uLast hx r 33 := by
  simp only [uLast, isDg, decide_eq_true_eq]
theorem pre_case (C : Bool) (t : ByteArray) (x : Bool) (HC : C = uPre (bsN t)) (h : x = uPre (bsN t)) : Value.bool x = Value.bool C := by rw [HC, h]
set_option maxRecDepth 100000 in
set_option maxHeartbeats 4000000 in
theorem under103_any (s : ByteArray) (w : World) (hs : s.size ≤ 400) : Calls Tryz.prog 103 #[.string s] w fun e w' => e = .returned (.bool (uOk (bsN s))) ∧ w = w' := by
  obtain ⟨B, hB⟩ : ∃ B, B = hasSign (bsN s) := ⟨_, rfl⟩
  have HB := Lib.hid hB
  clear hB
  go_enter Tryz.func103, Tryz.ntmps103
  go_upto_region 3 with fail
  go_cut [18] (fun v w1 => v = .bool B ∧ w1 = w)
  case first =>
    go_wp2_with fail
    · go_meet
      exact ⟨sign_of HB.out (sign_yes _ ‹_›), rfl⟩
    · go_meet
      exact ⟨sign_of HB.out (sign_else _), rfl⟩
    · go_meet
      exact ⟨sign_of HB.out (sign_nil ‹_›), rfl⟩
  case rest =>
    obtain ⟨rfl, rfl⟩ := hcut
    go_upto_if 18 with fail
    go_cut [0] (fun v w1 => ∃ t : ByteArray, v = .string t ∧ bsN t = unsign (bsN s) ∧ t.size ≤ 400 ∧ w1 = wc)
    case first =>
      cases B
      · go_wp2_with fail
        go_meet
        exact ⟨s, rfl, by rw [unsign_eq, ← HB.out]; rfl, hs, rfl⟩
      · have h1 : 1 ≤ s.size := by
          refine Decidable.byContradiction fun h => ?_
          have := HB.out
          rw [bsN_nil (by omega)] at this; simp [hasSign] at this
        go_wp2_with fail
        go_meet
        exact ⟨_, rfl, by rw [unsign_eq, ← HB.out, bsN_extract]; simp, by simp; omega, rfl⟩
    case rest =>
      obtain ⟨t, rfl, ht, htl, rfl⟩ := hcut
      have Ht := Lib.hid ht
      clear ht
      obtain ⟨C, hC⟩ : ∃ C, C = uPre (bsN t) := ⟨_, rfl⟩
      have HC := Lib.hid hC
      clear hC
      go_upto_region 6 with fail
      go_cut [46] (fun v w1 => v = .bool C ∧ w1 = wc)
      case first =>
        go_wp2_with (go_at_call 102; refine (lower_any _ _ (UInt8.toNat_lt _)).mono ?_; rintro e w' ⟨rfl, rfl⟩)
        · go_meet
          exact ⟨pre_case C t _ HC.out (uPre_b _ _ ‹_› ‹_›), rfl⟩
        · go_meet
          exact ⟨pre_case C t _ HC.out (uPre_o _ _ ‹_› ‹_›), rfl⟩
        · go_meet
          exact ⟨pre_case C t _ HC.out (uPre_x _ _ ‹_›), rfl⟩
        · go_meet
          exact ⟨pre_case C t _ HC.out (uPre_no _ ‹_› ‹_›), rfl⟩
        · go_meet
          exact ⟨pre_case C t _ HC.out (uPre_sh ‹_›), rfl⟩
      case rest =>
        obtain ⟨rfl, rfl⟩ := hcut
        go_upto_if 46 with fail
        go_cut [3, 4, 5] (fun s3 s4 s5 w1 => ∃ (k last : Nat) (hx : Bool), k ≤ t.size ∧ s4 = .int .i64 k ∧ s3 = .int .i32 last ∧ last < 100 ∧ s5 = .bool hx ∧ uLast hx ((bsN t).drop k) last = uOk (bsN s) ∧ w1 = wc)
        case first =>
          cases C
          · go_wp2_with fail
            go_meet
            refine ⟨0, 94, false, Nat.zero_le _, rfl, rfl, by decide, rfl, ?_, rfl⟩
            unfold uOk uBody
            rw [← Ht.out, ← HC.out]; simp
          · have h2 : 2 ≤ t.size := by
              refine Decidable.byContradiction fun h => ?_
              have := HC.out
              rw [uPre_short (by omega)] at this; simp at this
            go_wp2_with (go_at_call 102; refine (lower_any _ _ (UInt8.toNat_lt _)).mono ?_; rintro e w' ⟨rfl, rfl⟩)
            go_meet
            refine ⟨2, 48, _, h2, rfl, rfl, by decide, rfl, ?_, rfl⟩
            unfold uOk uBody
            rw [← Ht.out, ← HC.out, bsN_get (show 1 < t.size by omega)]
            simp
            congr 1
            apply decide_eq_decide.2; omega
        case rest =>
          obtain ⟨k0, last0, hx, hk0, rfl, rfl, hl0, rfl, hu0, rfl⟩ := hcut
          have Hu := Lib.hid hu0
          clear hu0
          go_wp2_with fail
          go_loopg [3, 4] (t.size - k0) (fun g s3 s4 w1 => ∃ k last : Nat, k ≤ t.size ∧ g = t.size - k ∧ s4 = .int .i64 k ∧ s3 = .int .i32 last ∧ last < 100 ∧ Hid (uLast hx ((bsN t).drop k) last = uOk (bsN s)) ∧ w1 = wc)
          case atStart => exact ⟨k0, last0, hk0, rfl, rfl, rfl, hl0, Hu, rfl⟩
          case round =>
            obtain ⟨k, last, hk, hg, rfl, rfl, hl, HR, rfl⟩ := hrel
            have Hg := Lib.hid hg
            clear hg
            by_cases hlt : k < t.size
            · obtain ⟨G, hG⟩ : ∃ G, G = isDg hx t[k].toNat := ⟨_, rfl⟩
              have HG := Lib.hid hG
              clear hG
              have hc : t[k].toNat < 256 := UInt8.toNat_lt _
              have HR2 := Lib.hid (HR.out.symm.trans (by rw [bsN_drop t k hlt, uLast_cons, ← HG.out]))
              go_upto_region 12 with fail
              go_cut [83] (fun v w1 => v = .bool G ∧ w1 = wr)
              case first =>
                cases hx
                · go_wp2_with (go_at_call 102; refine (lower_any _ _ (UInt8.toNat_lt _)).mono ?_; rintro e w' ⟨rfl, rfl⟩)
                  all_goals (go_meet; refine ⟨?_, rfl⟩; rw [HG.out]; refine congrArg Value.bool ?_; unfold isDg; rw [Bool.eq_iff_iff]; simp; omega)
                · go_wp2_with (go_at_call 102; refine (lower_any _ _ (UInt8.toNat_lt _)).mono ?_; rintro e w' ⟨rfl, rfl⟩)
                  all_goals (go_meet; refine ⟨?_, rfl⟩; rw [HG.out]; refine congrArg Value.bool ?_; unfold isDg; rw [Bool.eq_iff_iff]; simp; omega)
              case rest =>
                obtain ⟨rfl, rfl⟩ := hcut
                go_wp2_with fail
                · have q : G = true := by assumption
                  have e := HR2.out
                  rw [if_pos q] at e
                  go_roundg (t.size - (k + 1))
                  case measure => have := Hg.out; omega
                  case rel => exact ⟨k + 1, 48, by omega, rfl, by go_num, rfl, by decide, e.symm, rfl⟩
                · have q : G = false := by assumption
                  have q1 : ((t[k].toNat : Int) == 95) = true := by assumption
                  have q2 : ((last : Int) != 48) = true := by assumption
                  have e := HR2.out
                  rw [if_neg (by simp [q]), if_pos (by have := beq_iff_eq.1 q1; omega), if_neg (by have := bne_iff_ne.1 q2; omega)] at e
                  go_ret
                  exact ⟨by rw [e]; rfl, rfl⟩
                · have q : G = false := by assumption
                  have q1 : ((t[k].toNat : Int) == 95) = true := by assumption
                  have q2 : ((last : Int) != 48) = false := by assumption
                  have e := HR2.out
                  rw [if_neg (by simp [q]), if_pos (by have := beq_iff_eq.1 q1; omega), if_pos (by have := bne_eq_false_iff_eq.1 q2; omega)] at e
                  go_roundg (t.size - (k + 1))
                  case measure => have := Hg.out; omega
                  case rel => exact ⟨k + 1, 95, by omega, rfl, by go_num, rfl, by decide, e.symm, rfl⟩
                · have q : G = false := by assumption
                  have q1 : ((t[k].toNat : Int) == 95) = false := by assumption
                  have q2 : ((last : Int) == 95) = true := by assumption
                  have e := HR2.out
                  rw [if_neg (by simp [q]), if_neg (by have := beq_eq_false_iff_ne.1 q1; omega), if_pos (by have := beq_iff_eq.1 q2; omega)] at e
                  go_ret
                  exact ⟨by rw [e]; rfl, rfl⟩
                · have q : G = false := by assumption
                  have q1 : ((t[k].toNat : Int) == 95) = false := by assumption
                  have q2 : ((last : Int) == 95) = false := by assumption
                  have e := HR2.out
                  rw [if_neg (by simp [q]), if_neg (by have := beq_eq_false_iff_ne.1 q1; omega), if_neg (by have := beq_eq_false_iff_ne.1 q2; omega)] at e
                  go_roundg (t.size - (k + 1))
                  case measure => have := Hg.out; omega
                  case rel => exact ⟨k + 1, 33, by omega, rfl, by go_num, rfl, by decide, e.symm, rfl⟩
            · have e := HR.out
              rw [bsN_drop_end t k (by omega)] at e
              have He := Lib.hid (show (last != 95) = uOk (bsN s) by rw [← e]; simp [uLast, bne]; rfl)
              clear e
              go_wp2_with fail
              go_ret
              refine ⟨?_, rfl⟩
              rw [← He.out]
              refine congrArg (fun b => Ending.returned (Value.bool b)) ?_
              rw [Bool.eq_iff_iff]; simp; omega
end Go.Proofs.YtdfbokmjipdolaaGreatDoor
