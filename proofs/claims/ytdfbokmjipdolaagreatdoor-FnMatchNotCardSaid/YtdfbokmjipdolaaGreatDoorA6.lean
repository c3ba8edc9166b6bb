/- atof64exact: where it answers, the answer is no NaN, and the mantissa and the power are small. -/
import Derived.Test.YtdfbokmjipdolaaGreatDoorQ8
import Derived.Test.YtdfbokmjipdolaaGreatDoorRows
set_option linter.unusedVariables false
set_option linter.unusedSimpArgs false
namespace Go.Proofs.YtdfbokmjipdolaaGreatDoor
open Go.RowKit

/-- the bits of Go's exact powers of ten -/
def f10Tab : List Nat := [4607182418800017408, 4621819117588971520, 4636737291354636288, 4652007308841189376, 4666723172467343360, 4681608360884174848, 4696837146684686336, 4711630319722168320, 4726483295884279808, 4741671816366391296, 4756540486875873280, 4771362005757984768, 4786511204640096256, 4801453603149578240, 4816244402031689728, 4831355200913801216, 4846369599423283200, 4861130398305394688, 4876203697187506176, 4891288408196988160, 4906019910204099648, 4921056587992461136, 4936209963552724370]
def f10 (i : Nat) : Nat := f10Tab.getD i 0
def okNum (b : Nat) : Bool := match Ieee.double.read b with
  | .number _ m _ => decide (m ≠ 0)
  | _ => false
theorem f10_ok : ∀ i < 23, okNum (f10 i) = true := by decide +kernel
theorem okNum_ex {b : Nat} (h : okNum b = true) : ∃ s m p, Ieee.double.read b = .number s m p ∧ m ≠ 0 := by
  unfold okNum at h
  split at h
  · rename_i s m p e; exact ⟨s, m, p, e, by simpa using h⟩
  · cases h

/-- Go's table of exact powers lies in the world -/
def F10At (w : World) : Prop := ∃ tb ofs : Nat, w.cell? ⟨11, 0, none⟩ = some (.slice (some ⟨tb, ofs, none⟩) 23 23) ∧ ∀ i < 23, w.cell? ⟨tb, ofs + i, none⟩ = some (.float .f64 (f10 i))

theorem neg_nan (b : Nat) : nan64 (Op.negFloat .f64 b) = nan64 b := by
  have : (b ^^^ 9223372036854775808) % 2 ^ 63 = b % 2 ^ 63 := by
    rw [Nat.xor_mod_two_pow]; simp
  unfold nan64 Op.negFloat
  rw [show 2 ^ (FloatKind.f64.format.exponentBits + FloatKind.f64.format.fractionBits) = 9223372036854775808 from rfl]
  rw [show (9223372036854775808 : Nat) = 2 ^ 63 from rfl] at this ⊢
  rw [this]

def A64Post (d : Nat) (p : Int) (e : Ending) : Prop := ∃ b ok, e = .returned (.tuple #[.float .f64 b, .bool ok]) ∧ (ok = true → nan64 b = false ∧ d < 9007199254740992 ∧ p ≤ 37)

set_option maxRecDepth 100000 in
theorem exact_big (d : Nat) (p : Int) (neg : Bool) (w : World) (hd : d < 18446744073709551616) (hb : 4503599627370496 ≤ d) (c4 : w.cell? ⟨4, 0, none⟩ = some (.int .u64 52)) :
    Calls Tryz.prog 77 #[.int .u64 d, .int .i64 p, .bool neg] w fun e w' => A64Post d p e ∧ w = w' := by
  go_enter Tryz.func77, Tryz.ntmps77
  go_wp2_with fail
  go_ret2
  exact ⟨⟨0, false, rfl, fun h => by cases h⟩, rfl⟩

@[go_sem] theorem unary_neg_float (k : FloatKind) (b : Nat) : Op.unary .neg (.float k b) = pure (.float k (Op.negFloat k b)) := rfl
theorem mulHyp {x r : Nat} {y : Nat} (h : floatBits .mul .f64 x y = some r) (w : World) : Sem.run Tryz.prog (binOp .mul 29 (.float .f64 x) (.float .f64 y)) w = .ok (.float .f64 r) w := run_float_arith w .mul 29 .f64 x y r h
theorem divHyp {x r : Nat} {y : Nat} (h : floatBits .quo .f64 x y = some r) (w : World) : Sem.run Tryz.prog (binOp .quo 29 (.float .f64 x) (.float .f64 y)) w = .ok (.float .f64 r) w := run_float_arith w .quo 29 .f64 x y r h

theorem f10_mul (x i : Nat) (hx : nan64 x = false) (hi : i < 23) : ∃ r, floatBits .mul .f64 x (f10 i) = some r ∧ nan64 r = false := by
  obtain ⟨s, m, p, h, hm⟩ := okNum_ex (f10_ok i hi)
  exact mul_ok x _ hx s m p h hm
theorem f10_div (x i : Nat) (hx : nan64 x = false) (hi : i < 23) : ∃ r, floatBits .quo .f64 x (f10 i) = some r ∧ nan64 r = false := by
  obtain ⟨s, m, p, h, hm⟩ := okNum_ex (f10_ok i hi)
  exact div_ok x _ hx s m p h hm

set_option maxRecDepth 100000 in
set_option maxHeartbeats 2000000 in
theorem exact_small (d : Nat) (p : Int) (neg : Bool) (w : World) (hb : d < 4503599627370496) (hp : -100000000 ≤ p) (hp' : p ≤ 100000000) (c4 : w.cell? ⟨4, 0, none⟩ = some (.int .u64 52)) (ht : F10At w) :
    Calls Tryz.prog 77 #[.int .u64 d, .int .i64 p, .bool neg] w fun e w' => A64Post d p e ∧ w = w' := by
  obtain ⟨tb, ofs, c11, ct⟩ := ht
  have Hct := Lib.hid ct
  clear ct
  obtain ⟨x, hx⟩ : ∃ x, x = if neg then Op.negFloat .f64 (floatOfInt .f64 d) else floatOfInt .f64 d := ⟨_, rfl⟩
  have nx : nan64 x = false := by rw [hx]; cases neg <;> simp [neg_nan, int_nan]
  have Hx := Lib.hid hx
  clear hx
  by_cases h0 : p = 0
  · subst h0
    cases neg
    · as_aux_lemma =>
        have nx0 : nan64 (floatOfInt .f64 d) = false := int_nan _
        go_enter Tryz.func77, Tryz.ntmps77
        go_wp2_with fail
        go_ret2
        exact ⟨⟨_, true, rfl, fun _ => ⟨nx0, by omega, by omega⟩⟩, rfl⟩
    · as_aux_lemma =>
        have nx0 : nan64 (Op.negFloat .f64 (floatOfInt .f64 d)) = false := by rw [neg_nan]; exact int_nan _
        go_enter Tryz.func77, Tryz.ntmps77
        go_wp2_with fail
        go_ret2
        exact ⟨⟨_, true, rfl, fun _ => ⟨nx0, by omega, by omega⟩⟩, rfl⟩
  · have g0 : (p == 0) = false := by rw [beq_eq_false_iff_ne]; exact h0
    by_cases h1 : 1 ≤ p ∧ p ≤ 22
    · obtain ⟨h1, h2⟩ := h1
      obtain ⟨i, rfl⟩ : ∃ i : Nat, p = i := ⟨p.toNat, by omega⟩
      obtain ⟨r, hr, nr⟩ := f10_mul x i nx (by omega)
      have cc := Hct.out i (by omega)
      have HM := mulHyp hr
      rw [Hx.out] at HM
      clear h0 hr
      cases neg
      all_goals
        simp only [if_true, if_false, Bool.false_eq_true] at HM
        as_aux_lemma =>
          go_enter Tryz.func77, Tryz.ntmps77
          go_wp2_with fail
          all_goals
            go_ret2
            refine ⟨⟨_, _, rfl, ?_⟩, rfl⟩
            first | (intro h; cases h; done) | exact fun _ => ⟨nr, by omega, by omega⟩
    · by_cases h2 : 23 ≤ p ∧ p ≤ 37
      · obtain ⟨h2, h3⟩ := h2
        obtain ⟨r, hr, nr⟩ := f10_mul x (p - 22).toNat nx (by omega)
        obtain ⟨r2, hr2, nr2⟩ := f10_mul r 22 nr (by omega)
        have cc := Hct.out (p - 22).toNat (by omega)
        have cc2 := Hct.out 22 (by omega)
        have HM := mulHyp hr
        have HM2 := mulHyp hr2
        rw [Hx.out] at HM
        clear h0 hr hr2 h1
        cases neg
        all_goals
          simp only [if_true, if_false, Bool.false_eq_true] at HM
          as_aux_lemma =>
            go_enter Tryz.func77, Tryz.ntmps77
            go_wp2_with fail
            all_goals
              go_ret2
              refine ⟨⟨_, _, rfl, ?_⟩, rfl⟩
              first | (intro h; cases h; done) | exact fun _ => ⟨nr2, by omega, by omega⟩
      · by_cases h3 : -22 ≤ p ∧ p ≤ -1
        · obtain ⟨h3, h4⟩ := h3
          obtain ⟨r, hr, nr⟩ := f10_div x (-p).toNat nx (by omega)
          have cc := Hct.out (-p).toNat (by omega)
          have HM := divHyp hr
          rw [Hx.out] at HM
          clear h0 hr h1 h2
          cases neg
          all_goals
            simp only [if_true, if_false, Bool.false_eq_true] at HM
            as_aux_lemma =>
              go_enter Tryz.func77, Tryz.ntmps77
              go_wp2_with fail
              all_goals
                go_ret2
                refine ⟨⟨_, _, rfl, ?_⟩, rfl⟩
                first | (intro h; cases h; done) | exact fun _ => ⟨nr, by omega, by omega⟩
        · have h4 : p < -22 ∨ 37 < p := by omega
          clear h0 h1 h2 h3
          rcases h4 with h4 | h4
          all_goals
            cases neg
            all_goals
              as_aux_lemma =>
                go_enter Tryz.func77, Tryz.ntmps77
                go_wp2_with fail
                go_ret2
                exact ⟨⟨_, _, rfl, fun h => by cases h⟩, rfl⟩

theorem exact_any (d : Nat) (p : Int) (neg : Bool) (w : World) (hd : d < 18446744073709551616) (hp : -100000000 ≤ p) (hp' : p ≤ 100000000) (c4 : w.cell? ⟨4, 0, none⟩ = some (.int .u64 52)) (ht : F10At w) :
    Calls Tryz.prog 77 #[.int .u64 d, .int .i64 p, .bool neg] w fun e w' => A64Post d p e ∧ w = w' := by
  by_cases h : d < 4503599627370496
  · exact exact_small d p neg w h hp hp' c4 ht
  · exact exact_big d p neg w hd (by omega) c4
end Go.Proofs.YtdfbokmjipdolaaGreatDoor
