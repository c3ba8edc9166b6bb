/- Texts of the proof, joined: A5, B7. -/
import Derived.Test.YtdfbokmjipdolaaGreatDoorQ4
import Derived.Laws.FloatArith
set_option linter.unusedVariables false
set_option linter.unusedSimpArgs false
/- special of Go's own strconv: inf, infinity, nan. -/
namespace Go.Proofs.YtdfbokmjipdolaaGreatDoor
open Go.RowKit

def lowc (c : Nat) : Nat := if 65 ≤ c ∧ c ≤ 90 then c + 32 else c
def cpl : List Nat → List Nat → Nat
  | c :: l, d :: p => if lowc c = d then cpl l p + 1 else 0
  | _, _ => 0
theorem ret_i64 {a b : Int} (h : a = b) : Ending.returned (.int .i64 a) = Ending.returned (.int .i64 b) := by rw [h]
theorem cpl_nil_l (p : List Nat) : cpl [] p = 0 := by cases p <;> rfl
theorem cpl_nil_r (l : List Nat) : cpl l [] = 0 := by cases l <;> rfl
theorem cpl_yes {c d : Nat} {l p : List Nat} (h : lowc c = d) : cpl (c :: l) (d :: p) = cpl l p + 1 := by simp [cpl, h]
theorem cpl_no {c d : Nat} {l p : List Nat} (h : ¬ lowc c = d) : cpl (c :: l) (d :: p) = 0 := by simp [cpl, h]

set_option maxHeartbeats 1000000 in
theorem cpl_any (s p : ByteArray) (w : World) (hs : s.size ≤ 400) : Calls Tryz.prog 99 #[.string s, .string p] w fun e w' => e = .returned (.int .i64 (cpl (bsN s) (bsN p))) ∧ w = w' := by
  obtain ⟨R, hR⟩ : ∃ R, R = cpl (bsN s) (bsN p) := ⟨_, rfl⟩
  have HR := Lib.hid hR
  rw [← hR]
  clear hR
  obtain ⟨n, hn⟩ : ∃ n : Nat, (n : Int) = (if s.size < p.size then (s.size : Int) else (p.size : Int)) := ⟨min p.size s.size, by split <;> omega⟩
  have b1 : n ≤ s.size := by split at hn <;> omega
  have b2 : n ≤ p.size := by split at hn <;> omega
  have b3 : n < s.size → n = p.size := by split at hn <;> omega
  have Hn := Lib.hid hn
  have Hb := Lib.hid b3
  clear hn b3
  go_enter Tryz.func99, Tryz.ntmps99
  go_upto_region 2 with fail
  rw [← Hn.out]
  go_wp2_with fail
  go_loop [6] (fun i => ∃ k : Nat, k ≤ n ∧ i = .int .i64 k ∧ Hid (R = cpl ((bsN s).drop k) ((bsN p).drop k) + k)) (fun i => n - (intOf i).toNat)
  case atStart => exact ⟨0, Nat.zero_le _, rfl, HR⟩
  case round =>
    obtain ⟨k, hk, rfl, HK⟩ := hrel
    by_cases hlt : k < n
    · have h1 : k < s.size := by omega
      have h2 : k < p.size := by omega
      have e := HK.out
      rw [bsN_drop s k h1, bsN_drop p k h2] at e
      have He := Lib.hid e
      have c1 : s[k].toNat < 256 := UInt8.toNat_lt _
      have c2 : p[k].toNat < 256 := UInt8.toNat_lt _
      clear e HK
      go_wp2_with fail
      · have q := bne_iff_ne.1 ‹((s[k].toNat : Int) + 32 != (p[k].toNat : Int)) = true›
        go_ret
        exact ⟨ret_i64 (by rw [He.out, cpl_no (by unfold lowc; split <;> omega)]; simp), rfl⟩
      · have q := bne_eq_false_iff_eq.1 ‹((s[k].toNat : Int) + 32 != (p[k].toNat : Int)) = false›
        go_round
        case rel => exact ⟨k + 1, by omega, by go_num, Lib.hid (by rw [He.out, cpl_yes (by unfold lowc; split <;> omega)]; omega)⟩
        case measure => simp [intOf]; omega
      · have q := bne_iff_ne.1 ‹((s[k].toNat : Int) != (p[k].toNat : Int)) = true›
        go_ret
        exact ⟨ret_i64 (by rw [He.out, cpl_no (by unfold lowc; split <;> omega)]; simp), rfl⟩
      · have q := bne_eq_false_iff_eq.1 ‹((s[k].toNat : Int) != (p[k].toNat : Int)) = false›
        go_round
        case rel => exact ⟨k + 1, by omega, by go_num, Lib.hid (by rw [He.out, cpl_yes (by unfold lowc; split <;> omega)]; omega)⟩
        case measure => simp [intOf]; omega
      · have q := bne_iff_ne.1 ‹((s[k].toNat : Int) != (p[k].toNat : Int)) = true›
        go_ret
        exact ⟨ret_i64 (by rw [He.out, cpl_no (by unfold lowc; split <;> omega)]; simp), rfl⟩
      · have q := bne_eq_false_iff_eq.1 ‹((s[k].toNat : Int) != (p[k].toNat : Int)) = false›
        go_round
        case rel => exact ⟨k + 1, by omega, by go_num, Lib.hid (by rw [He.out, cpl_yes (by unfold lowc; split <;> omega)]; omega)⟩
        case measure => simp [intOf]; omega
    · go_wp2_with fail
      go_ret
      refine ⟨?_, rfl⟩
      have e := HK.out
      have hkn : k = n := by omega
      have : cpl ((bsN s).drop k) ((bsN p).drop k) = 0 := by
        by_cases h : n < s.size
        · rw [bsN_drop_end p k (by have := Hb.out h; omega), cpl_nil_r]
        · rw [bsN_drop_end s k (by omega), cpl_nil_l]
      rw [e, this]; simp [hkn]

def infinityL : List Nat := [105, 110, 102, 105, 110, 105, 116, 121]
def nanL : List Nat := [110, 97, 110]
/-- a NaN's bits -/
def nan64 (b : Nat) : Bool := decide (infPos < b % 9223372036854775808)
def spCut (m : Nat) : Nat := if 3 < m ∧ m < 8 then 3 else m
/-- inf, infinity (a sign ahead), nan at the front: whether it is nan; how many bytes -/
def sp (l : List Nat) : Option (Bool × Nat) :=
  if hasSign l then (if spCut (cpl l.tail infinityL) = 3 ∨ spCut (cpl l.tail infinityL) = 8 then some (false, 1 + spCut (cpl l.tail infinityL)) else none)
  else if l.head? = some 105 ∨ l.head? = some 73 then (if spCut (cpl l infinityL) = 3 ∨ spCut (cpl l infinityL) = 8 then some (false, spCut (cpl l infinityL)) else none)
  else if l.head? = some 110 ∨ l.head? = some 78 then (if cpl l nanL = 3 then some (true, 3) else none)
  else none
def SPPost (l : List Nat) (e : Ending) : Prop :=
  match sp l with
  | some r => ∃ b, e = .returned (.tuple #[.float .f64 b, .int .i64 r.2, .bool true]) ∧ nan64 b = r.1
  | none => e = .returned (.tuple #[.float .f64 0, .int .i64 0, .bool false])

theorem SP.yes {l : List Nat} {nn : Bool} {n b : Nat} {x : Int} {e : Ending} (h : sp l = some (nn, n)) (hb : nan64 b = nn) (hx : x = n) (he : e = .returned (.tuple #[.float .f64 b, .int .i64 x, .bool true])) : SPPost l e := by
  unfold SPPost; rw [h]; exact ⟨b, by rw [he, hx], hb⟩
theorem SP.no {l : List Nat} {e : Ending} (h : sp l = none) (he : e = .returned (.tuple #[.float .f64 0, .int .i64 0, .bool false])) : SPPost l e := by
  unfold SPPost; rw [h]; exact he
theorem nan_inf (neg : Bool) : nan64 infPos = false ∧ nan64 infNeg = false ∧ nan64 nanBits = true := by decide
theorem sp_sign {l : List Nat} {M : Nat} (h : hasSign l = true) (hM : M = cpl l.tail infinityL) : sp l = if spCut M = 3 ∨ spCut M = 8 then some (false, 1 + spCut M) else none := by
  unfold sp; rw [if_pos h, hM]
theorem sp_i {l : List Nat} {M : Nat} (h : hasSign l = false) (h2 : l.head? = some 105 ∨ l.head? = some 73) (hM : M = cpl l infinityL) : sp l = if spCut M = 3 ∨ spCut M = 8 then some (false, spCut M) else none := by
  unfold sp; rw [if_neg (by simp [h]), if_pos h2, hM]
theorem sp_n {l : List Nat} {M : Nat} (h : hasSign l = false) (h1 : ¬ (l.head? = some 105 ∨ l.head? = some 73)) (h2 : l.head? = some 110 ∨ l.head? = some 78) (hM : M = cpl l nanL) : sp l = if M = 3 then some (true, 3) else none := by
  unfold sp; rw [if_neg (by simp [h]), if_neg h1, if_pos h2, hM]
theorem sp_else {l : List Nat} (h : hasSign l = false) (h1 : ¬ (l.head? = some 105 ∨ l.head? = some 73)) (h2 : ¬ (l.head? = some 110 ∨ l.head? = some 78)) : sp l = none := by
  unfold sp; rw [if_neg (by simp [h]), if_neg h1, if_neg h2]

theorem tri (M : Nat) : M < 3 ∨ M = 3 ∨ (3 < M ∧ M < 8) ∨ M = 8 ∨ 8 < M := by omega
theorem spn {M : Nat} (h : M < 3 ∨ 8 < M) : ¬ (spCut M = 3 ∨ spCut M = 8) := by unfold spCut; split <;> omega
theorem sp3 {M : Nat} (h : 3 ≤ M ∧ M < 8) : spCut M = 3 := by unfold spCut; split <;> omega
theorem sp8 {M : Nat} (h : M = 8) : spCut M = 8 := by unfold spCut; split <;> omega
theorem head_eq {s : ByteArray} (h0 : 0 < s.size) : (bsN s).head? = some s[0].toNat := by rw [bsN_cons h0]; rfl

set_option maxRecDepth 100000 in
set_option maxHeartbeats 4000000 in
theorem special_any (s : ByteArray) (w : World) (hs : s.size ≤ 400) : Calls Tryz.prog 66 #[.string s] w fun e w' => SPPost (bsN s) e ∧ w = w' := by
  by_cases h0 : 0 < s.size
  · have hc : s[0].toNat < 256 := UInt8.toNat_lt _
    have hne : ¬ s = ByteArray.empty := by rintro rfl; simp at h0
    have Hh := Lib.hid (head_eq h0)
    have Hsg := Lib.hid (show hasSign (bsN s) = (decide (s[0].toNat = 43) || decide (s[0].toNat = 45)) by unfold hasSign; rw [Hh.out]; simp; rfl)
    obtain ⟨M1, hM1⟩ : ∃ M1, M1 = cpl (bsN s).tail infinityL := ⟨_, rfl⟩
    obtain ⟨M2, hM2⟩ : ∃ M1, M1 = cpl (bsN s) infinityL := ⟨_, rfl⟩
    obtain ⟨M3, hM3⟩ : ∃ M1, M1 = cpl (bsN s) nanL := ⟨_, rfl⟩
    have K1 := Lib.hid fun w => cpl_any (s.extract 1 s.size) ⟨#[105, 110, 102, 105, 110, 105, 116, 121]⟩ w (by simp; omega)
    have K2 := Lib.hid fun w => cpl_any s ⟨#[105, 110, 102, 105, 110, 105, 116, 121]⟩ w hs
    have K3 := Lib.hid fun w => cpl_any s ⟨#[110, 97, 110]⟩ w hs
    rw [bsN_extract, List.drop_one, show bsN ⟨#[105, 110, 102, 105, 110, 105, 116, 121]⟩ = infinityL from rfl, ← hM1] at K1
    rw [show bsN ⟨#[105, 110, 102, 105, 110, 105, 116, 121]⟩ = infinityL from rfl, ← hM2] at K2
    rw [show bsN ⟨#[110, 97, 110]⟩ = nanL from rfl, ← hM3] at K3
    have HM1 := Lib.hid hM1
    have HM2 := Lib.hid hM2
    have HM3 := Lib.hid hM3
    clear hM1 hM2 hM3
    go_enter Tryz.func66, Tryz.ntmps66
    go_wp2_with fail
    · have q := b_eq ‹((s[0].toNat : Int) == 43) = true›
      rcases tri M1 with h | h | ⟨h, h'⟩ | h | h
      · refine (K1.out _).mono ?_
        rintro e w' ⟨rfl, rfl⟩
        have g3 : ((M1 : Int) == 3) = false := by rw [beq_eq_false_iff_ne]; omega
        have g8 : ((M1 : Int) == 8) = false := by rw [beq_eq_false_iff_ne]; omega
        go_wp2_with (go_at_call 100; refine (inf_pos _).mono ?_; rintro e w' ⟨rfl, rfl⟩)
        go_ret3
        exact ⟨SP.no (by rw [sp_sign (by rw [Hsg.out]; simp; omega) HM1.out, if_neg (spn (by omega))]) rfl, rfl⟩
      · refine (K1.out _).mono ?_
        rintro e w' ⟨rfl, rfl⟩
        have h1 : (M1 : Int) = 3 := by omega
        go_wp2_with (go_at_call 100; refine (inf_pos _).mono ?_; rintro e w' ⟨rfl, rfl⟩)
        go_ret3
        exact ⟨SP.yes (nn := false) (n := 1 + 3) (by rw [sp_sign (by rw [Hsg.out]; simp; omega) HM1.out, sp3 (by omega)]; rfl) (b := infPos) (by decide) (by first | rfl | (simp; omega)) rfl, rfl⟩
      · refine (K1.out _).mono ?_
        rintro e w' ⟨rfl, rfl⟩
        go_wp2_with (go_at_call 100; refine (inf_pos _).mono ?_; rintro e w' ⟨rfl, rfl⟩)
        go_ret3
        exact ⟨SP.yes (nn := false) (n := 1 + 3) (by rw [sp_sign (by rw [Hsg.out]; simp; omega) HM1.out, sp3 (by omega)]; rfl) (b := infPos) (by decide) (by first | rfl | (simp; omega)) rfl, rfl⟩
      · refine (K1.out _).mono ?_
        rintro e w' ⟨rfl, rfl⟩
        have h1 : (M1 : Int) = 8 := by omega
        go_wp2_with (go_at_call 100; refine (inf_pos _).mono ?_; rintro e w' ⟨rfl, rfl⟩)
        go_ret3
        exact ⟨SP.yes (nn := false) (n := 1 + 8) (by rw [sp_sign (by rw [Hsg.out]; simp; omega) HM1.out, sp8 (by omega)]; rfl) (b := infPos) (by decide) (by first | rfl | (simp; omega)) rfl, rfl⟩
      · refine (K1.out _).mono ?_
        rintro e w' ⟨rfl, rfl⟩
        have g3 : ((M1 : Int) == 3) = false := by rw [beq_eq_false_iff_ne]; omega
        have g8 : ((M1 : Int) == 8) = false := by rw [beq_eq_false_iff_ne]; omega
        go_wp2_with (go_at_call 100; refine (inf_pos _).mono ?_; rintro e w' ⟨rfl, rfl⟩)
        go_ret3
        exact ⟨SP.no (by rw [sp_sign (by rw [Hsg.out]; simp; omega) HM1.out, if_neg (spn (by omega))]) rfl, rfl⟩
    · have q := b_eq ‹((s[0].toNat : Int) == 45) = true›
      rcases tri M1 with h | h | ⟨h, h'⟩ | h | h
      · refine (K1.out _).mono ?_
        rintro e w' ⟨rfl, rfl⟩
        have g3 : ((M1 : Int) == 3) = false := by rw [beq_eq_false_iff_ne]; omega
        have g8 : ((M1 : Int) == 8) = false := by rw [beq_eq_false_iff_ne]; omega
        go_wp2_with (go_at_call 100; refine (inf_neg _).mono ?_; rintro e w' ⟨rfl, rfl⟩)
        go_ret3
        exact ⟨SP.no (by rw [sp_sign (by rw [Hsg.out]; simp; omega) HM1.out, if_neg (spn (by omega))]) rfl, rfl⟩
      · refine (K1.out _).mono ?_
        rintro e w' ⟨rfl, rfl⟩
        have h1 : (M1 : Int) = 3 := by omega
        go_wp2_with (go_at_call 100; refine (inf_neg _).mono ?_; rintro e w' ⟨rfl, rfl⟩)
        go_ret3
        exact ⟨SP.yes (nn := false) (n := 1 + 3) (by rw [sp_sign (by rw [Hsg.out]; simp; omega) HM1.out, sp3 (by omega)]; rfl) (b := infNeg) (by decide) (by first | rfl | (simp; omega)) rfl, rfl⟩
      · refine (K1.out _).mono ?_
        rintro e w' ⟨rfl, rfl⟩
        go_wp2_with (go_at_call 100; refine (inf_neg _).mono ?_; rintro e w' ⟨rfl, rfl⟩)
        go_ret3
        exact ⟨SP.yes (nn := false) (n := 1 + 3) (by rw [sp_sign (by rw [Hsg.out]; simp; omega) HM1.out, sp3 (by omega)]; rfl) (b := infNeg) (by decide) (by first | rfl | (simp; omega)) rfl, rfl⟩
      · refine (K1.out _).mono ?_
        rintro e w' ⟨rfl, rfl⟩
        have h1 : (M1 : Int) = 8 := by omega
        go_wp2_with (go_at_call 100; refine (inf_neg _).mono ?_; rintro e w' ⟨rfl, rfl⟩)
        go_ret3
        exact ⟨SP.yes (nn := false) (n := 1 + 8) (by rw [sp_sign (by rw [Hsg.out]; simp; omega) HM1.out, sp8 (by omega)]; rfl) (b := infNeg) (by decide) (by first | rfl | (simp; omega)) rfl, rfl⟩
      · refine (K1.out _).mono ?_
        rintro e w' ⟨rfl, rfl⟩
        have g3 : ((M1 : Int) == 3) = false := by rw [beq_eq_false_iff_ne]; omega
        have g8 : ((M1 : Int) == 8) = false := by rw [beq_eq_false_iff_ne]; omega
        go_wp2_with (go_at_call 100; refine (inf_neg _).mono ?_; rintro e w' ⟨rfl, rfl⟩)
        go_ret3
        exact ⟨SP.no (by rw [sp_sign (by rw [Hsg.out]; simp; omega) HM1.out, if_neg (spn (by omega))]) rfl, rfl⟩
    · have q := b_eq ‹((s[0].toNat : Int) == 105) = true›
      rcases tri M2 with h | h | ⟨h, h'⟩ | h | h
      · refine (K2.out _).mono ?_
        rintro e w' ⟨rfl, rfl⟩
        have g3 : ((M2 : Int) == 3) = false := by rw [beq_eq_false_iff_ne]; omega
        have g8 : ((M2 : Int) == 8) = false := by rw [beq_eq_false_iff_ne]; omega
        go_wp2_with (go_at_call 100; refine (inf_pos _).mono ?_; rintro e w' ⟨rfl, rfl⟩)
        go_ret3
        exact ⟨SP.no (by rw [sp_i (by rw [Hsg.out]; simp; omega) (by rw [Hh.out]; simp; omega) HM2.out, if_neg (spn (by omega))]) rfl, rfl⟩
      · refine (K2.out _).mono ?_
        rintro e w' ⟨rfl, rfl⟩
        have h1 : (M2 : Int) = 3 := by omega
        go_wp2_with (go_at_call 100; refine (inf_pos _).mono ?_; rintro e w' ⟨rfl, rfl⟩)
        go_ret3
        exact ⟨SP.yes (nn := false) (n := 3) (by rw [sp_i (by rw [Hsg.out]; simp; omega) (by rw [Hh.out]; simp; omega) HM2.out, sp3 (by omega)]; rfl) (b := infPos) (by decide) (by first | rfl | (simp; omega)) rfl, rfl⟩
      · refine (K2.out _).mono ?_
        rintro e w' ⟨rfl, rfl⟩
        go_wp2_with (go_at_call 100; refine (inf_pos _).mono ?_; rintro e w' ⟨rfl, rfl⟩)
        go_ret3
        exact ⟨SP.yes (nn := false) (n := 3) (by rw [sp_i (by rw [Hsg.out]; simp; omega) (by rw [Hh.out]; simp; omega) HM2.out, sp3 (by omega)]; rfl) (b := infPos) (by decide) (by first | rfl | (simp; omega)) rfl, rfl⟩
      · refine (K2.out _).mono ?_
        rintro e w' ⟨rfl, rfl⟩
        have h1 : (M2 : Int) = 8 := by omega
        go_wp2_with (go_at_call 100; refine (inf_pos _).mono ?_; rintro e w' ⟨rfl, rfl⟩)
        go_ret3
        exact ⟨SP.yes (nn := false) (n := 8) (by rw [sp_i (by rw [Hsg.out]; simp; omega) (by rw [Hh.out]; simp; omega) HM2.out, sp8 (by omega)]; rfl) (b := infPos) (by decide) (by first | rfl | (simp; omega)) rfl, rfl⟩
      · refine (K2.out _).mono ?_
        rintro e w' ⟨rfl, rfl⟩
        have g3 : ((M2 : Int) == 3) = false := by rw [beq_eq_false_iff_ne]; omega
        have g8 : ((M2 : Int) == 8) = false := by rw [beq_eq_false_iff_ne]; omega
        go_wp2_with (go_at_call 100; refine (inf_pos _).mono ?_; rintro e w' ⟨rfl, rfl⟩)
        go_ret3
        exact ⟨SP.no (by rw [sp_i (by rw [Hsg.out]; simp; omega) (by rw [Hh.out]; simp; omega) HM2.out, if_neg (spn (by omega))]) rfl, rfl⟩
    · have q := b_eq ‹((s[0].toNat : Int) == 73) = true›
      rcases tri M2 with h | h | ⟨h, h'⟩ | h | h
      · refine (K2.out _).mono ?_
        rintro e w' ⟨rfl, rfl⟩
        have g3 : ((M2 : Int) == 3) = false := by rw [beq_eq_false_iff_ne]; omega
        have g8 : ((M2 : Int) == 8) = false := by rw [beq_eq_false_iff_ne]; omega
        go_wp2_with (go_at_call 100; refine (inf_pos _).mono ?_; rintro e w' ⟨rfl, rfl⟩)
        go_ret3
        exact ⟨SP.no (by rw [sp_i (by rw [Hsg.out]; simp; omega) (by rw [Hh.out]; simp; omega) HM2.out, if_neg (spn (by omega))]) rfl, rfl⟩
      · refine (K2.out _).mono ?_
        rintro e w' ⟨rfl, rfl⟩
        have h1 : (M2 : Int) = 3 := by omega
        go_wp2_with (go_at_call 100; refine (inf_pos _).mono ?_; rintro e w' ⟨rfl, rfl⟩)
        go_ret3
        exact ⟨SP.yes (nn := false) (n := 3) (by rw [sp_i (by rw [Hsg.out]; simp; omega) (by rw [Hh.out]; simp; omega) HM2.out, sp3 (by omega)]; rfl) (b := infPos) (by decide) (by first | rfl | (simp; omega)) rfl, rfl⟩
      · refine (K2.out _).mono ?_
        rintro e w' ⟨rfl, rfl⟩
        go_wp2_with (go_at_call 100; refine (inf_pos _).mono ?_; rintro e w' ⟨rfl, rfl⟩)
        go_ret3
        exact ⟨SP.yes (nn := false) (n := 3) (by rw [sp_i (by rw [Hsg.out]; simp; omega) (by rw [Hh.out]; simp; omega) HM2.out, sp3 (by omega)]; rfl) (b := infPos) (by decide) (by first | rfl | (simp; omega)) rfl, rfl⟩
      · refine (K2.out _).mono ?_
        rintro e w' ⟨rfl, rfl⟩
        have h1 : (M2 : Int) = 8 := by omega
        go_wp2_with (go_at_call 100; refine (inf_pos _).mono ?_; rintro e w' ⟨rfl, rfl⟩)
        go_ret3
        exact ⟨SP.yes (nn := false) (n := 8) (by rw [sp_i (by rw [Hsg.out]; simp; omega) (by rw [Hh.out]; simp; omega) HM2.out, sp8 (by omega)]; rfl) (b := infPos) (by decide) (by first | rfl | (simp; omega)) rfl, rfl⟩
      · refine (K2.out _).mono ?_
        rintro e w' ⟨rfl, rfl⟩
        have g3 : ((M2 : Int) == 3) = false := by rw [beq_eq_false_iff_ne]; omega
        have g8 : ((M2 : Int) == 8) = false := by rw [beq_eq_false_iff_ne]; omega
        go_wp2_with (go_at_call 100; refine (inf_pos _).mono ?_; rintro e w' ⟨rfl, rfl⟩)
        go_ret3
        exact ⟨SP.no (by rw [sp_i (by rw [Hsg.out]; simp; omega) (by rw [Hh.out]; simp; omega) HM2.out, if_neg (spn (by omega))]) rfl, rfl⟩
    · have q := b_eq ‹((s[0].toNat : Int) == 110) = true›
      by_cases h : M3 = 3
      · refine (K3.out _).mono ?_
        rintro e w' ⟨rfl, rfl⟩
        have h1 : (M3 : Int) = 3 := by omega
        go_wp2_with (go_at_call 101; refine (nan_any _).mono ?_; rintro e w' ⟨rfl, rfl⟩)
        go_ret3
        exact ⟨SP.yes (nn := true) (n := 3) (by rw [sp_n (by rw [Hsg.out]; simp; omega) (by rw [Hh.out]; simp; omega) (by rw [Hh.out]; simp; omega) HM3.out, if_pos h]) (b := nanBits) (by decide) rfl rfl, rfl⟩
      · refine (K3.out _).mono ?_
        rintro e w' ⟨rfl, rfl⟩
        have h1 : ((M3 : Int) == 3) = false := by rw [beq_eq_false_iff_ne]; omega
        go_wp2_with fail
        go_ret3
        exact ⟨SP.no (by rw [sp_n (by rw [Hsg.out]; simp; omega) (by rw [Hh.out]; simp; omega) (by rw [Hh.out]; simp; omega) HM3.out, if_neg h]) rfl, rfl⟩
    · have q := b_eq ‹((s[0].toNat : Int) == 78) = true›
      by_cases h : M3 = 3
      · refine (K3.out _).mono ?_
        rintro e w' ⟨rfl, rfl⟩
        have h1 : (M3 : Int) = 3 := by omega
        go_wp2_with (go_at_call 101; refine (nan_any _).mono ?_; rintro e w' ⟨rfl, rfl⟩)
        go_ret3
        exact ⟨SP.yes (nn := true) (n := 3) (by rw [sp_n (by rw [Hsg.out]; simp; omega) (by rw [Hh.out]; simp; omega) (by rw [Hh.out]; simp; omega) HM3.out, if_pos h]) (b := nanBits) (by decide) rfl rfl, rfl⟩
      · refine (K3.out _).mono ?_
        rintro e w' ⟨rfl, rfl⟩
        have h1 : ((M3 : Int) == 3) = false := by rw [beq_eq_false_iff_ne]; omega
        go_wp2_with fail
        go_ret3
        exact ⟨SP.no (by rw [sp_n (by rw [Hsg.out]; simp; omega) (by rw [Hh.out]; simp; omega) (by rw [Hh.out]; simp; omega) HM3.out, if_neg h]) rfl, rfl⟩
    · have q1 := b_ne ‹((s[0].toNat : Int) == 43) = false›
      have q2 := b_ne ‹((s[0].toNat : Int) == 45) = false›
      have q3 := b_ne ‹((s[0].toNat : Int) == 105) = false›
      have q4 := b_ne ‹((s[0].toNat : Int) == 73) = false›
      have q5 := b_ne ‹((s[0].toNat : Int) == 110) = false›
      have q6 := b_ne ‹((s[0].toNat : Int) == 78) = false›
      go_ret3
      exact ⟨SP.no (sp_else (by rw [Hsg.out]; simp; omega) (by rw [Hh.out]; simp; omega) (by rw [Hh.out]; simp; omega)) rfl, rfl⟩
  · have hz : s = ByteArray.empty := by
      apply ByteArray.ext; apply Array.eq_empty_of_size_eq_zero; have : s.size = 0 := by omega
      exact this
    subst hz
    go_enter Tryz.func66, Tryz.ntmps66
    go_wp2_with fail
    go_ret3
    exact ⟨SP.no rfl rfl, rfl⟩
end Go.Proofs.YtdfbokmjipdolaaGreatDoor
/- Plain facts on floats: which bits are a NaN; products, quotients, comparisons. -/
namespace Go.Proofs.YtdfbokmjipdolaaGreatDoor
open Go.RowKit Ieee

theorem d_inf : Ieee.double.infRung = infPos := by decide
theorem d_sw : Ieee.double.signWeight = 9223372036854775808 := by decide
theorem d_bin : Ieee.double.binade = 4503599627370496 := by decide

theorem read_nan (b : Nat) : (Ieee.double.read b).isNaN = nan64 b := by
  unfold Format.read nan64
  rw [d_sw, d_inf, d_bin]
  dsimp only
  split
  · rename_i h
    have : ¬ infPos < b % 9223372036854775808 := by unfold infPos; omega
    simp [Datum.isNaN, this]
  · split
    · rename_i h1 h
      have : ¬ infPos < b % 9223372036854775808 := by omega
      simp [Datum.isNaN, this]
    · split
      · rename_i h1 h2 h
        have : ¬ infPos < b % 9223372036854775808 := by omega
        simp [Datum.isNaN, this]
      · rename_i h1 h2 h3
        have : infPos < b % 9223372036854775808 := by omega
        simp [Datum.isNaN, this]

theorem word_mod (neg : Bool) (r : Nat) (h : r < 9223372036854775808) : Ieee.double.word neg r % 9223372036854775808 = r := by
  unfold Format.word
  rw [d_sw]
  cases neg <;> simp <;> omega

theorem nearest_nan (neg : Bool) (m : Nat) (p : Int) : nan64 (Ieee.double.nearest neg m p) = false := by
  unfold Format.nearest nan64
  dsimp only
  split
  · rw [word_mod _ _ (by decide)]; decide
  · have : min ((max (p + ↑m.log2 - ↑Ieee.double.fractionBits) Ieee.double.leastPlace - Ieee.double.leastPlace).toNat * Ieee.double.binade + Toward.even.cut neg (m <<< (p - max (p + ↑m.log2 - ↑Ieee.double.fractionBits) Ieee.double.leastPlace).toNat) (max (p + ↑m.log2 - ↑Ieee.double.fractionBits) Ieee.double.leastPlace - p).toNat) Ieee.double.infRung ≤ infPos := by
      rw [d_inf]; exact Nat.min_le_right _ _
    rw [word_mod _ _ (by unfold infPos at this; omega)]
    simp; omega
theorem write_nan (d : Datum) (h : d.isNaN = false) : nan64 (Ieee.double.write d) = false := by
  cases d with
  | number neg m p => exact nearest_nan neg m p
  | infinity neg =>
    unfold Format.write nan64
    rw [d_inf, word_mod _ _ (by decide)]; decide
  | nan neg f => simp [Datum.isNaN] at h

theorem int_nan (n : Int) : nan64 (floatOfInt .f64 n) = false := nearest_nan _ _ _

theorem isNaN_cases (d : Datum) (h : d.isNaN = false) : (∃ s, d = .infinity s) ∨ ∃ s m p, d = .number s m p := by
  cases d with
  | number s m p => exact Or.inr ⟨s, m, p, rfl⟩
  | infinity s => exact Or.inl ⟨s, rfl⟩
  | nan s f => simp [Datum.isNaN] at h

/-- a product with a number that is not 0 -/
theorem mul_ok (x y : Nat) (hx : nan64 x = false) (s : Bool) (m : Nat) (p : Int) (hy : Ieee.double.read y = .number s m p) (hm : m ≠ 0) : ∃ r, floatBits .mul .f64 x y = some r ∧ nan64 r = false := by
  rw [← read_nan] at hx
  rcases isNaN_cases _ hx with ⟨s', h⟩ | ⟨s', m', p', h⟩
  · refine ⟨_, ?_, write_nan (.infinity (s' ^^ s)) rfl⟩
    show ((Ieee.double.read x).product (Ieee.double.read y)).map Ieee.double.write = _
    rw [h, hy]; simp [Datum.product, hm]
  · refine ⟨_, ?_, write_nan (.number (s' ^^ s) (m' * m) (p' + p)) rfl⟩
    show ((Ieee.double.read x).product (Ieee.double.read y)).map Ieee.double.write = _
    rw [h, hy]; simp [Datum.product]
theorem div_ok (x y : Nat) (hx : nan64 x = false) (s : Bool) (m : Nat) (p : Int) (hy : Ieee.double.read y = .number s m p) (hm : m ≠ 0) : ∃ r, floatBits .quo .f64 x y = some r ∧ nan64 r = false := by
  rw [← read_nan] at hx
  rcases isNaN_cases _ hx with ⟨s', h⟩ | ⟨s', m', p', h⟩
  · refine ⟨_, ?_, write_nan (.infinity (s' ^^ s)) rfl⟩
    show ((Ieee.double.read x).quotient (Ieee.double.fractionBits + 2) (Ieee.double.read y)).map Ieee.double.write = _
    rw [h, hy]; simp [Datum.quotient]
  · have e : ∃ a b c, (Datum.number s' m' p').quotient (Ieee.double.fractionBits + 2) (Datum.number s m p) = some (.number a b c) := by
      simp only [Datum.quotient, if_neg hm]; exact ⟨_, _, _, rfl⟩
    obtain ⟨a, b, c, e⟩ := e
    refine ⟨_, ?_, write_nan (.number a b c) rfl⟩
    show ((Ieee.double.read x).quotient (Ieee.double.fractionBits + 2) (Ieee.double.read y)).map Ieee.double.write = _
    rw [h, hy, e]; rfl

theorem order_none (x y : Nat) : Ieee.double.order x y = none ↔ (nan64 x = true ∨ nan64 y = true) := by
  rw [← read_nan, ← read_nan]
  unfold Format.order
  generalize Ieee.double.read x = a
  generalize Ieee.double.read y = b
  cases a <;> cases b <;> simp [Datum.order, Datum.isNaN]
theorem order_self (x : Nat) (h : nan64 x = false) : Ieee.double.order x x = some .eq := by
  rw [← read_nan] at h
  unfold Format.order
  rcases isNaN_cases _ h with ⟨s', h⟩ | ⟨s', m', p', h⟩
  · rw [h]; simp [Datum.order]
  · rw [h]; simp [Datum.order]
end Go.Proofs.YtdfbokmjipdolaaGreatDoor
