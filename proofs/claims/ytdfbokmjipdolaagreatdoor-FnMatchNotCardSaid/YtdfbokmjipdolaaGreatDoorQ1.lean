/- Texts of the proof, joined: B1, A1, B3. -/
import Derived.WalkKit
import Derived.Test.YtdfbokmjipdolaaGreatDoorProg
import Derived.WalkLawsBesides
import Derived.WalkSpells
import Derived.Lib.Hide
set_option linter.unusedVariables false
set_option linter.unusedSimpArgs false
/- Plain facts on bits of 64-bit words, used by the float walks. No condition beyond the ranges named. -/
namespace Go.Proofs.YtdfbokmjipdolaaGreatDoor
open Go.RowKit

theorem and_split (a b k : Nat) : a &&& b = (a / 2 ^ k &&& b / 2 ^ k) * 2 ^ k + (a % 2 ^ k &&& b % 2 ^ k) := by
  rw [← Nat.and_div_two_pow, ← Nat.and_mod_two_pow]
  exact (Nat.div_add_mod' _ _).symm
theorem or_split (a b k : Nat) : a ||| b = (a / 2 ^ k ||| b / 2 ^ k) * 2 ^ k + (a % 2 ^ k ||| b % 2 ^ k) := by
  rw [← Nat.or_div_two_pow, ← Nat.or_mod_two_pow]
  exact (Nat.div_add_mod' _ _).symm

theorem wraps_u64 (n : Int) (h₀ : 0 ≤ n) (h₁ : n < 2 ^ 64) : IntKind.u64.wrap n = n := IntWalk.u64_in _ (by omega)
theorem bits_and_u64 (a b : Nat) (ha : a < 2 ^ 64) (hb : b < 2 ^ 64) : bits BinOp.and IntKind.u64 (a : Int) (b : Int) = ((a &&& b : Nat) : Int) :=
  (bits_nat .u64 64 (by decide) wraps_u64 a b ha hb).1
theorem bits_or_u64 (a b : Nat) (ha : a < 2 ^ 64) (hb : b < 2 ^ 64) : bits BinOp.or IntKind.u64 (a : Int) (b : Int) = ((a ||| b : Nat) : Int) :=
  (bits_nat .u64 64 (by decide) wraps_u64 a b ha hb).2
theorem bits_andNot_u64 (a b : Nat) (ha : a < 2 ^ 64) (hb : b < 2 ^ 64) : bits BinOp.andNot IntKind.u64 (a : Int) (b : Int) = ((a &&& (2 ^ 64 - 1 - b) : Nat) : Int) := by
  have hk : IntKind.u64.bits = 64 := rfl
  have e : (BitVec.ofInt 64 (a : Int) &&& ~~~ BitVec.ofInt 64 (b : Int)).toNat = a &&& (2 ^ 64 - 1 - b) := by
    simp only [BitVec.ofInt_natCast, BitVec.toNat_and, BitVec.toNat_not, BitVec.toNat_ofNat, Nat.mod_eq_of_lt ha, Nat.mod_eq_of_lt hb]
  have hlt : a &&& (2 ^ 64 - 1 - b) < 2 ^ 64 := Nat.lt_of_le_of_lt Nat.and_le_left ha
  show IntKind.u64.wrap ((BitVec.ofInt 64 (a : Int) &&& ~~~ BitVec.ofInt 64 (b : Int)).toNat : Int) = _
  rw [e]
  exact wraps_u64 _ (by omega) (by omega)

/-- the sign of a word -/
def sgn (neg : Bool) : Nat := if neg then 9223372036854775808 else 0
theorem sgn_lt (neg : Bool) : sgn neg ≤ 9223372036854775808 := by cases neg <;> simp [sgn]

theorem or_disj (s x : Nat) (neg : Bool) (hs : s = sgn neg) (hx : x < 9223372036854775808) : s ||| x = s + x := by
  rw [or_split s x 63]
  have h1 : x / 2 ^ 63 = 0 := Nat.div_eq_of_lt (by omega)
  have h2 : x % 2 ^ 63 = x := Nat.mod_eq_of_lt (by omega)
  cases neg <;> subst hs <;> simp [sgn, h1, h2]

theorem pack_and52 (neg : Bool) (m : Nat) (hm : m ≤ 9007199254740992) : (sgn neg + m) &&& 4503599627370496 = if 4503599627370496 ≤ m ∧ m < 9007199254740992 then 4503599627370496 else 0 := by
  rw [and_split _ _ 52]
  have e2 : (4503599627370496 : Nat) / 2 ^ 52 = 1 := by decide
  have e3 : (4503599627370496 : Nat) % 2 ^ 52 = 0 := by decide
  rw [e2, e3, Nat.and_zero, Nat.and_one_is_mod]
  have e4 : (sgn neg + m) / 2 ^ 52 % 2 = m / 4503599627370496 % 2 := by cases neg <;> simp [sgn] <;> omega
  rw [e4]
  by_cases h : 4503599627370496 ≤ m ∧ m < 9007199254740992
  · rw [if_pos h]; omega
  · rw [if_neg h]; omega
theorem pack_and63 (neg : Bool) (m : Nat) (hm : m ≤ 9007199254740992) : (sgn neg + m) &&& 9223372036854775808 = sgn neg := by
  rw [and_split _ _ 63]
  have e2 : (9223372036854775808 : Nat) / 2 ^ 63 = 1 := by decide
  have e3 : (9223372036854775808 : Nat) % 2 ^ 63 = 0 := by decide
  rw [e2, e3, Nat.and_zero, Nat.and_one_is_mod]
  cases neg <;> simp only [sgn] <;> simp <;> omega
theorem pack_andNot (neg : Bool) (m : Nat) (h0 : 4503599627370496 ≤ m) (hm : m < 9007199254740992) : (sgn neg + m) &&& (2 ^ 64 - 1 - 4503599627370496) = sgn neg + (m - 4503599627370496) := by
  rw [and_split _ _ 52]
  have e2 : (2 ^ 64 - 1 - 4503599627370496 : Nat) / 2 ^ 52 = 4094 := by decide
  have e3 : (2 ^ 64 - 1 - 4503599627370496 : Nat) % 2 ^ 52 = 2 ^ 52 - 1 := by decide
  rw [e2, e3, Nat.and_two_pow_sub_one_eq_mod]
  have e4 : (sgn neg + m) / 2 ^ 52 = if neg then 2049 else 1 := by cases neg <;> simp [sgn] <;> omega
  rw [e4]
  cases neg <;> simp [sgn] <;> omega
/-- the words of a float: a fraction below an exponent -/
theorem pack_or (neg : Bool) (f x : Nat) (hf : f < 4503599627370496) (hx : x < 2048) : (sgn neg + f) ||| (x * 4503599627370496) = sgn neg + f + x * 4503599627370496 := by
  rw [or_split _ _ 52]
  have e1 : (sgn neg + f) % 2 ^ 52 = f := by cases neg <;> simp [sgn] <;> omega
  have e2 : (sgn neg + f) / 2 ^ 52 = if neg then 2048 else 0 := by cases neg <;> simp [sgn] <;> omega
  have e3 : x * 4503599627370496 / 2 ^ 52 = x := by omega
  have e4 : x * 4503599627370496 % 2 ^ 52 = 0 := by omega
  rw [e1, e2, e3, e4]
  cases neg
  · simp [sgn]; omega
  · have : (2048 ||| x) = 2048 + x := by
      have h := Nat.two_pow_add_eq_or_of_lt (b := x) (i := 11) (by omega) 1
      simpa using h.symm
    simp only [sgn, if_true]
    rw [this, Nat.or_zero]; omega
end Go.Proofs.YtdfbokmjipdolaaGreatDoor
/- Small functions of the float parser: lower, bool2, round, unmin, log2Pow10, pack64, inf, nan. -/
namespace Go.Proofs.YtdfbokmjipdolaaGreatDoor
open Go.RowKit

/-- lower of a byte. -/
def lw (c : Nat) : Nat := c ||| 32

theorem bits_or_u8 (c : Nat) (h : c < 256) : bits BinOp.or IntKind.u8 (c : Int) 32 = ((lw c : Nat) : Int) :=
  (bits_nat .u8 8 (by decide) wraps_u8 c 32 (by omega) (by decide)).2
theorem lw_lt (c : Nat) (h : c < 256) : lw c < 256 := Nat.or_lt_two_pow (n := 8) h (by decide)

theorem lower_any (c : Nat) (w : World) (h : c < 256) : Calls Tryz.prog 102 #[.int .u8 c] w fun e w' => e = .returned (.int .u8 (lw c)) ∧ w = w' := by
  have hb := bits_or_u8 c h
  go_enter Tryz.func102, Tryz.ntmps102
  go_wp2
  go_ret
  exact ⟨by simp [hb], rfl⟩
theorem lower85_any (c : Nat) (w : World) (h : c < 256) : Calls Tryz.prog 85 #[.int .u8 c] w fun e w' => e = .returned (.int .u8 (lw c)) ∧ w = w' := by
  have hb := bits_or_u8 c h
  go_enter Tryz.func85, Tryz.ntmps85
  go_wp2
  go_ret
  exact ⟨by simp [hb], rfl⟩

def b2n (b : Bool) : Nat := if b then 1 else 0
theorem bool2u64_any (b : Bool) (w : World) : Calls Tryz.prog 75 #[.bool b] w fun e w' => e = .returned (.int .u64 (b2n b)) ∧ w = w' := by
  cases b
  all_goals
    go_enter Tryz.func75, Tryz.ntmps75
    go_wp2
    go_ret
    exact ⟨rfl, rfl⟩
theorem bool2int_any (b : Bool) (w : World) : Calls Tryz.prog 108 #[.bool b] w fun e w' => e = .returned (.int .i64 (b2n b)) ∧ w = w' := by
  cases b
  all_goals
    go_enter Tryz.func108, Tryz.ntmps108
    go_wp2
    go_ret
    exact ⟨rfl, rfl⟩

/-- round of an unrounded. -/
def rnd (u : Nat) : Nat := (u + 1 + u / 4 % 2) / 4
theorem round_any (u : Nat) (w : World) (h1 : u < 4611686018427387904) : Calls Tryz.prog 111 #[.int .u64 u] w fun e w' => e = .returned (.int .u64 (rnd u)) ∧ w = w' := by
  have hb : bits BinOp.and IntKind.u64 ((u : Int) / 4) 1 = (u : Int) / 4 % 2 := and_one_u64 _ (by omega) (by omega)
  go_enter Tryz.func111, Tryz.ntmps111
  go_wp2
  go_ret
  refine ⟨?_, rfl⟩
  have e1 : IntKind.u64.wrap ((u : Int) + 1) = u + 1 := IntWalk.u64_in _ (by omega)
  have e2 : IntKind.u64.wrap ((u : Int) + 1 + (u : Int) / 4 % 2) = u + 1 + (u : Int) / 4 % 2 := IntWalk.u64_in _ (by omega)
  simp [hb, e1, e2, rnd]
theorem unmin_any (u : Nat) (w : World) (h0 : 1 ≤ u) (h1 : u < 4611686018427387904) : Calls Tryz.prog 109 #[.int .u64 u] w fun e w' => e = .returned (.int .u64 (u * 4 - 2)) ∧ w = w' := by
  go_enter Tryz.func109, Tryz.ntmps109
  go_wp2
  go_ret
  exact ⟨rfl, rfl⟩
theorem lp_any (p : Int) (w : World) (h0 : -400 ≤ p) (h1 : p < 400) : Calls Tryz.prog 105 #[.int .i64 p] w fun e w' => e = .returned (.int .i64 (p * 108853 / 32768)) ∧ w = w' := by
  go_enter Tryz.func105, Tryz.ntmps105
  go_wp2
  go_ret
  exact ⟨rfl, rfl⟩

@[go_sem] theorem run_frombits76 (b : Int) (w : World) : Sem.run Tryz.prog (callFunc 76 #[.int .u64 b]) w = .ok (.value (.float .f64 b.toNat)) w := by
  rw [run_callFunc_extern (e := Extern.MathFloatBits.float64frombits) Tryz.func76 (by kernel_rfl) (by kernel_rfl) (by kernel_rfl) (by kernel_rfl)]
  rfl
@[go_sem] theorem run_frombits84 (b : Int) (w : World) : Sem.run Tryz.prog (callFunc 84 #[.int .u64 b]) w = .ok (.value (.float .f64 b.toNat)) w := by
  rw [run_callFunc_extern (e := Extern.MathFloatBits.float64frombits) Tryz.func84 (by kernel_rfl) (by kernel_rfl) (by kernel_rfl) (by kernel_rfl)]
  rfl
def infPos : Nat := 9218868437227405312
def infNeg : Nat := 18442240474082181120
def nanBits : Nat := 9221120237041090561
theorem inf_pos (w : World) : Calls Tryz.prog 100 #[.int .i64 1] w fun e w' => e = .returned (.float .f64 infPos) ∧ w = w' := by
  go_enter Tryz.func100, Tryz.ntmps100
  go_wp2
  go_ret
  exact ⟨rfl, rfl⟩
theorem inf_neg (w : World) : Calls Tryz.prog 100 #[.int .i64 (-1)] w fun e w' => e = .returned (.float .f64 infNeg) ∧ w = w' := by
  go_enter Tryz.func100, Tryz.ntmps100
  go_wp2
  go_ret
  exact ⟨rfl, rfl⟩
theorem nan_any (w : World) : Calls Tryz.prog 101 #[] w fun e w' => e = .returned (.float .f64 nanBits) ∧ w = w' := by
  go_enter Tryz.func101, Tryz.ntmps101
  go_wp2
  go_ret
  exact ⟨rfl, rfl⟩
theorem nan50_any (w : World) : Calls Tryz.prog 50 #[] w fun e w' => e = .returned (.float .f64 nanBits) ∧ w = w' := by
  go_enter Tryz.func50, Tryz.ntmps50
  go_wp2
  go_ret
  exact ⟨rfl, rfl⟩

/-- What pack64 gives: the bits and the error. -/
def packBits (neg : Bool) (m : Nat) (x : Int) : Nat :=
  if 4503599627370496 ≤ m ∧ m < 9007199254740992 then (if 972 ≤ x then sgn neg + infPos else sgn neg + (m - 4503599627370496) + (1075 + x).toNat * 4503599627370496) else sgn neg + m
def packErr (m : Nat) (x : Int) : Value := if (4503599627370496 ≤ m ∧ m < 9007199254740992) ∧ 972 ≤ x then .iface 79 (.int .i64 1) else .nilIface

theorem or_inf (neg : Bool) : sgn neg ||| 9218868437227405312 = sgn neg + infPos := or_disj _ _ neg rfl (by decide)


theorem ret_f2 {a b : Nat} {v v' : Value} (h : a = b) (h' : v = v') : Ending.returned (.tuple #[.float .f64 a, v]) = Ending.returned (.tuple #[.float .f64 b, v']) := by rw [h, h']

theorem p52 (neg : Bool) (m : Nat) (hm : m ≤ 9007199254740992) : bits BinOp.and IntKind.u64 ((sgn neg + m : Nat) : Int) 4503599627370496 = ((if 4503599627370496 ≤ m ∧ m < 9007199254740992 then 4503599627370496 else 0 : Nat) : Int) := by
  have hs := sgn_lt neg
  have := bits_and_u64 (sgn neg + m) 4503599627370496 (by omega) (by decide)
  rw [pack_and52 neg m hm] at this
  exact this
theorem p63 (neg : Bool) (m : Nat) (hm : m ≤ 9007199254740992) : bits BinOp.or IntKind.u64 (bits BinOp.and IntKind.u64 ((sgn neg + m : Nat) : Int) 9223372036854775808) 9218868437227405312 = ((sgn neg + infPos : Nat) : Int) := by
  have hs := sgn_lt neg
  have h1 := bits_and_u64 (sgn neg + m) 9223372036854775808 (by omega) (by decide)
  rw [pack_and63 neg m hm] at h1
  have h2 := bits_or_u64 (sgn neg) 9218868437227405312 (by omega) (by decide)
  rw [or_inf] at h2
  have h1' : bits BinOp.and IntKind.u64 ((sgn neg + m : Nat) : Int) 9223372036854775808 = (sgn neg : Int) := h1
  rw [h1']
  exact h2
theorem pN (neg : Bool) (m : Nat) (x : Int) (h0 : 4503599627370496 ≤ m) (hm : m < 9007199254740992) (hx0 : -1075 ≤ x) (hx : x < 972) : bits BinOp.or IntKind.u64 (bits BinOp.andNot IntKind.u64 ((sgn neg + m : Nat) : Int) 4503599627370496) ((1075 + x) * 4503599627370496) = ((sgn neg + (m - 4503599627370496) + (1075 + x).toNat * 4503599627370496 : Nat) : Int) := by
  have hs := sgn_lt neg
  have h1 := bits_andNot_u64 (sgn neg + m) 4503599627370496 (by omega) (by decide)
  rw [pack_andNot neg m h0 hm] at h1
  have h1' : bits BinOp.andNot IntKind.u64 ((sgn neg + m : Nat) : Int) 4503599627370496 = ((sgn neg + (m - 4503599627370496) : Nat) : Int) := h1
  rw [h1']
  obtain ⟨y, hy⟩ : ∃ y : Nat, 1075 + x = y := ⟨(1075 + x).toNat, by omega⟩
  rw [hy]
  have h2 := bits_or_u64 (sgn neg + (m - 4503599627370496)) (y * 4503599627370496) (by omega) (by omega)
  rw [pack_or neg _ y (by omega) (by omega)] at h2
  have e : ((y * 4503599627370496 : Nat) : Int) = (y : Int) * 4503599627370496 := by omega
  rw [e] at h2
  rw [h2]; simp

theorem pack_any (neg : Bool) (m : Nat) (x : Int) (w : World) (hm : m ≤ 9007199254740992) (h0 : -1074 ≤ x) (h1 : x < 2000) : Calls Tryz.prog 114 #[.int .u64 ((sgn neg + m : Nat) : Int), .int .i64 x] w fun e w' => e = .returned (.tuple #[.float .f64 (packBits neg m x), packErr m x]) ∧ w = w' := by
  have hs := sgn_lt neg
  have hlt : sgn neg + m < 2 ^ 64 := by omega
  have H52 := Lib.hid (p52 neg m hm)
  have H63 := Lib.hid (p63 neg m hm)
  have HN := Lib.hid (fun a b c d => pN neg m x a b c d)
  obtain ⟨M, hM⟩ : ∃ M, M = sgn neg + m := ⟨_, rfl⟩
  rw [← hM] at H52 H63 HN hlt
  have HM := Lib.hid hM
  rw [← hM]
  clear hM
  go_enter Tryz.func114, Tryz.ntmps114
  go_wp2
  · have hq : (bits BinOp.and IntKind.u64 (↑M) 4503599627370496 == 0) = true := by assumption
    rw [H52.out] at hq
    have hn : ¬ (4503599627370496 ≤ m ∧ m < 9007199254740992) := by
      intro h; rw [if_pos h] at hq; simp at hq
    go_ret2
    exact ⟨ret_f2 (by rw [HM.out]; unfold packBits; rw [if_neg hn]) (if_neg (by omega)).symm, rfl⟩
  · have hq : (bits BinOp.and IntKind.u64 (↑M) 4503599627370496 == 0) = false := by assumption
    have hx : 972 ≤ x := by assumption
    rw [H52.out] at hq
    have hn : (4503599627370496 ≤ m ∧ m < 9007199254740992) := by
      refine Decidable.byContradiction fun h => ?_
      rw [if_neg h] at hq; simp at hq
    go_ret2
    exact ⟨ret_f2 (by rw [H63.out, Int.toNat_natCast]; unfold packBits; rw [if_pos hn, if_pos hx]) (if_pos ⟨hn, hx⟩).symm, rfl⟩
  · have hq : (bits BinOp.and IntKind.u64 (↑M) 4503599627370496 == 0) = false := by assumption
    have hx : x < 972 := by assumption
    rw [H52.out] at hq
    have hn : (4503599627370496 ≤ m ∧ m < 9007199254740992) := by
      refine Decidable.byContradiction fun h => ?_
      rw [if_neg h] at hq; simp at hq
    go_ret2
    exact ⟨ret_f2 (by rw [HN.out hn.1 hn.2 (by omega) hx, Int.toNat_natCast]; unfold packBits; rw [if_pos hn, if_neg (by omega)]) (if_neg (by omega)).symm, rfl⟩
end Go.Proofs.YtdfbokmjipdolaaGreatDoor
/- Plain words for the reading of a number: one run over the bytes, to which the three readers are held. -/
namespace Go.Proofs.YtdfbokmjipdolaaGreatDoor
open Go.RowKit

/-- a text's bytes as numbers -/
def bsN (s : ByteArray) : List Nat := s.data.toList.map UInt8.toNat
theorem bsN_len (s : ByteArray) : (bsN s).length = s.size := by simp [bsN]
theorem bsN_lt (s : ByteArray) : ∀ c ∈ bsN s, c < 256 := by
  intro c hc
  simp only [bsN, List.mem_map] at hc
  obtain ⟨u, _, rfl⟩ := hc
  exact u.toNat_lt
theorem bsN_drop (s : ByteArray) (k : Nat) (h : k < s.size) : (bsN s).drop k = s[k].toNat :: (bsN s).drop (k + 1) := by
  have hl : k < (bsN s).length := by rw [bsN_len]; exact h
  rw [List.drop_eq_getElem_cons hl]
  congr 1
  simp only [bsN, List.getElem_map]
  rfl
theorem bsN_drop_end (s : ByteArray) (k : Nat) (h : s.size ≤ k) : (bsN s).drop k = [] := List.drop_eq_nil_of_le (by rw [bsN_len]; exact h)

/-- a number in base b by its digits -/
def num (b : Nat) (D : List Nat) : Nat := D.foldl (fun a d => a * b + d) 0
theorem foldl_num (b : Nat) (D : List Nat) (a : Nat) : D.foldl (fun a d => a * b + d) a = a * b ^ D.length + num b D := by
  induction D generalizing a with
  | nil => simp [num]
  | cons d D ih =>
    unfold num
    simp only [List.foldl_cons, List.length_cons]
    rw [ih, ih (0 * b + d), Nat.pow_succ, Nat.zero_mul, Nat.zero_add, Nat.add_mul, Nat.add_assoc, Nat.mul_assoc, Nat.mul_comm b]
theorem num_append (b : Nat) (D E : List Nat) : num b (D ++ E) = num b D * b ^ E.length + num b E := by
  unfold num
  rw [List.foldl_append, foldl_num]
  rfl
theorem num_snoc (b : Nat) (D : List Nat) (d : Nat) : num b (D ++ [d]) = num b D * b + d := by
  rw [num_append]; simp [num]
theorem num_cons (b d : Nat) (D : List Nat) : num b (d :: D) = d * b ^ D.length + num b D := by
  have := num_append b [d] D
  simpa [num] using this
theorem num_lt (b : Nat) (hb : 0 < b) (D : List Nat) (h : ∀ d ∈ D, d < b) : num b D < b ^ D.length := by
  induction D with
  | nil => simp [num]
  | cons d D ih =>
    rw [num_cons, List.length_cons, Nat.pow_succ]
    have h1 := ih fun x hx => h x (List.mem_cons_of_mem _ hx)
    have h2 := h d List.mem_cons_self
    have h3 : (d + 1) * b ^ D.length ≤ b * b ^ D.length := Nat.mul_le_mul_right _ h2
    rw [Nat.add_mul, Nat.one_mul] at h3
    rw [Nat.mul_comm (b ^ D.length)]
    omega

/-- the digit of a byte, in decimal or hexadecimal -/
def digOf (hex : Bool) (c : Nat) : Option Nat :=
  if 48 ≤ c ∧ c ≤ 57 then some (c - 48) else if hex = true ∧ 97 ≤ lw c ∧ lw c ≤ 102 then some (lw c - 87) else none

/-- what the run knows: the digits from the first that is not 0 on, the place of the point, whether there was a point, a digit, an underscore -/
structure MS where
  D : List Nat
  dp : Int
  dot : Bool
  digs : Bool
  us : Bool

def MS.start : MS := ⟨[], 0, false, false, false⟩
def MS.digit (st : MS) (d : Nat) : MS :=
  if st.D = [] ∧ d = 0 then { st with digs := true, dp := if st.dot then st.dp - 1 else st.dp }
  else { st with D := st.D ++ [d], digs := true, dp := if st.dot then st.dp else st.dp + 1 }
def mStep (hex : Bool) (c : Nat) (st : MS) : Option MS :=
  if c = 95 then some { st with us := true }
  else if c = 46 then (if st.dot then none else some { st with dot := true })
  else (digOf hex c).map st.digit
def mRun (hex : Bool) : List Nat → MS → MS × List Nat
  | [], st => (st, [])
  | c :: r, st => match mStep hex c st with
    | some st' => mRun hex r st'
    | none => (st, c :: r)

/-- the digits of an exponent; 'us': an underscore was among them -/
def eRun : List Nat → Nat → Bool → (Nat × Bool) × List Nat
  | [], e, us => ((e, us), [])
  | c :: r, e, us =>
    if c = 95 then eRun r e true
    else if 48 ≤ c ∧ c ≤ 57 then eRun r (if e < 10000 then e * 10 + (c - 48) else e) us
    else ((e, us), c :: r)

/-- an exponent behind its mark: its value, whether an underscore stood there, what is left -/
def xRead (r : List Nat) : Option ((Int × Bool) × List Nat) :=
  let sg : Int := if r.head? = some 45 then -1 else 1
  let r1 := if r.head? = some 45 ∨ r.head? = some 43 then r.tail else r
  match r1 with
  | [] => none
  | c :: _ => if c < 48 ∨ 57 < c then none else some ((((eRun r1 0 false).1.1 : Int) * sg, (eRun r1 0 false).1.2), (eRun r1 0 false).2)

/-- where the underscores may stand (l: without a sign) -/
def uLast (hex : Bool) : List Nat → Nat → Bool
  | [], last => last ≠ 95
  | c :: r, last =>
    if (48 ≤ c ∧ c ≤ 57) ∨ (hex = true ∧ 97 ≤ lw c ∧ lw c ≤ 102) then uLast hex r 48
    else if c = 95 then (if last = 48 then uLast hex r 95 else false)
    else if last = 95 then false else uLast hex r 33
def uPre (l : List Nat) : Bool := 2 ≤ l.length && l[0]?.getD 0 == 48 && (lw (l[1]?.getD 0) == 98 || lw (l[1]?.getD 0) == 111 || lw (l[1]?.getD 0) == 120)
def uBody (l : List Nat) : Bool := if uPre l then uLast (lw (l[1]?.getD 0) == 120) (l.drop 2) 48 else uLast false l 94
def unsign (l : List Nat) : List Nat := if l.head? = some 43 ∨ l.head? = some 45 then l.tail else l
def uOk (l : List Nat) : Bool := uBody (unsign l)

theorem mRun_cons (hex : Bool) (c : Nat) (r : List Nat) (st st' : MS) (h : mStep hex c st = some st') : mRun hex (c :: r) st = mRun hex r st' := by simp [mRun, h]
theorem mRun_stop (hex : Bool) (c : Nat) (r : List Nat) (st : MS) (h : mStep hex c st = none) : mRun hex (c :: r) st = (st, c :: r) := by simp [mRun, h]
theorem mRun_end (hex : Bool) (st : MS) : mRun hex [] st = (st, []) := rfl
end Go.Proofs.YtdfbokmjipdolaaGreatDoor
