/- Texts of the proof, joined: D4, D5. -/
import Derived.Test.YtdfbokmjipdolaaGreatDoorQ2
import Derived.Test.YtdfbokmjipdolaaGreatDoorQ3
import Derived.Test.YtdfbokmjipdolaaGreatDoorQ5
import Derived.Below
import Derived.Laws.OwnMore
import Derived.Deep.RegionLaw
set_option linter.unusedVariables false
set_option linter.unusedSimpArgs false
/- Plain law of the light decimal: its bits; it is too large exactly from 2^1024 - 2^970 on. -/
namespace Go.Proofs.YtdfbokmjipdolaaGreatDoor
open Go.RowKit

def wholeI (D : List Nat) (dp : Int) : Nat := if dp < 0 then 0 else whole D dp.toNat
def lpack (m : Nat) (y : Int) : Nat × Bool :=
  if m = 9007199254740992 then (if 1023 ≤ y then (infPos, true) else ((y + 1024).toNat * 4503599627370496, false))
  else if m / 4503599627370496 % 2 = 0 then (m % 4503599627370496, false)
  else (m % 4503599627370496 + (y + 1023).toNat * 4503599627370496, false)
def lR3 (D : List Nat) (x : Int) : List Nat × Int := if 0 < -1022 - x then lDn ((-1022 - x).toNat + 1) D 0 (-1022 - x).toNat else (D, 0)
def lY (x : Int) : Int := if 0 < -1022 - x then -1022 else x
def lfin (D : List Nat) (x : Int) : Nat × Bool :=
  if 1024 ≤ lY x then (infPos, true)
  else lpack (wholeI (lUp 54 (lR3 D x).1 (lR3 D x).2 53).1 (lUp 54 (lR3 D x).1 (lR3 D x).2 53).2) (lY x)
def lR1 (D : List Nat) (dp : Int) : List Nat × Int × Nat := lL1 (10 * dp.toNat + 9) D dp 0
def lR2 (D : List Nat) (dp : Int) : List Nat × Int × Nat := lL2 (10 * (-(lR1 D dp).2.1).toNat + 10) (lR1 D dp).1 (lR1 D dp).2.1 0
def lbits (D : List Nat) (dp : Int) : Nat × Bool :=
  if D = [] ∨ dp < -330 then (0, false) else if 310 < dp then (infPos, true)
  else lfin (lR2 D dp).1 ((lR1 D dp).2.2 - (lR2 D dp).2.2 - 1)

theorem thr_d : thr = 18014398509481983 * p2 970 := by decide +kernel
theorem p2_970 : p2 1024 = 18014398509481984 * p2 970 := by decide +kernel
theorem p2_1025 : p2 1025 = 2 * p2 1024 := by decide +kernel
theorem thr_310 : thr ≤ p10 310 := by decide +kernel
theorem thr_1 : 1 ≤ thr := by decide +kernel
theorem thr_lt : p2 1023 < thr := thr_1023
theorem p2_s (a b : Nat) : 2 ^ (a + b) = 2 ^ a * p2 b := Nat.pow_add 2 a b
theorem pw_mono {a b : Nat} (h : a ≤ b) : 2 ^ a ≤ 2 ^ b := Nat.pow_le_pow_right (by decide) h
theorem ej_of (e j : Nat) (x : Int) (hx : x = e - j - 1) (h1 : ¬ 1024 ≤ x) (h2 : ¬ x = 1023) : e ≤ j + 1023 := by omega
theorem p10_s (a b : Nat) : 10 ^ (a + b) = 10 ^ a * p10 b := Nat.pow_add 10 a b
attribute [local irreducible] p2 p10

theorem lpack_ok (m : Nat) (y : Int) (hy : y ≤ 1023) (hy0 : -1022 ≤ y) (hm : m ≤ 9007199254740992) : (lpack m y).1 ≤ infPos ∧ ((lpack m y).2 = true → (lpack m y).1 = infPos) ∧ ((lpack m y).2 = true ↔ m = 9007199254740992 ∧ 1023 ≤ y) ∧ ((lpack m y).2 = false → (lpack m y).1 < infPos) := by
  unfold lpack infPos
  split
  · rename_i h
    split
    · rename_i h2; exact ⟨Nat.le_refl _, fun _ => rfl, by simp [h, h2], by simp⟩
    · rename_i h2; refine ⟨by simp only; omega, by simp, by simp [h2], fun _ => by simp only; omega⟩
  · rename_i h
    split
    · refine ⟨by simp only; omega, by simp, by simp [h], fun _ => by simp only; omega⟩
    · refine ⟨by simp only; omega, by simp, by simp [h], fun _ => by simp only; omega⟩

structure LB (s : Nat) (D : List Nat) (dp : Int) (R : Nat × Bool) : Prop where
  le : R.1 ≤ infPos
  inf : R.2 = true → R.1 = infPos
  fin : R.2 = false → R.1 < infPos
  big : R.2 = true ↔ thr * 10 ^ s ≤ V s D dp

theorem wholeI_le (s : Nat) {D : List Nat} (hd : ∀ x ∈ D, x < 10) (dp : Int) (hs : (D.length : Int) ≤ s + dp) (hlt : V s D dp < 9007199254740992 * 10 ^ s) : wholeI D dp ≤ 9007199254740992 := by
  unfold wholeI
  split
  · omega
  · rename_i h
    obtain ⟨n, rfl⟩ : ∃ n : Nat, dp = n := ⟨dp.toNat, by omega⟩
    exact (whole_top s hd n (by omega) _ (by decide) (by decide) hlt).1

theorem lbits_law (s : Nat) (D : List Nat) (dp : Int) (hs : 100000000 ≤ s) (hD : LOk D ∨ D = []) (hlen : D.length ≤ 20000) (hdp : -20000 ≤ dp) (hdp' : dp ≤ 20000) : LB s D dp (lbits D dp) := by
  have hp : 0 < 10 ^ s := Nat.pow_pos (by decide)
  unfold lbits
  by_cases h0 : D = [] ∨ dp < -330
  · rw [if_pos h0]
    refine ⟨by simp [infPos], by simp, by simp [infPos], ?_⟩
    simp only [Bool.false_eq_true, false_iff, Nat.not_le]
    have h1 : 1 * 10 ^ s ≤ thr * 10 ^ s := Nat.mul_le_mul_right _ thr_1
    have h2 : V s D dp < 10 ^ s := by
      rcases hD with hD | rfl
      · have hn : dp < -330 := by
          rcases h0 with h | h
          · exact absurd h hD.ne
          · exact h
        have hh := (V_head hD s dp (by omega) (s + dp - 1).toNat (by omega)).2
        have h9 := (num_head hD).2.2.2.1
        have e : 10 ^ (s + dp - 1).toNat * 10 ≤ 10 ^ s := by rw [← Nat.pow_succ]; exact Nat.pow_le_pow_right (by decide) (by omega)
        have : (D.getD 0 0 + 1) * 10 ^ (s + dp - 1).toNat ≤ 10 * 10 ^ (s + dp - 1).toNat := Nat.mul_le_mul_right _ (by omega)
        omega
      · simp [V, num, hp]
    omega
  · rw [if_neg h0]
    have hd : LOk D := by
      rcases hD with h | h
      · exact h
      · exact absurd (Or.inl h) h0
    have hdm : -330 ≤ dp := by
      refine Decidable.byContradiction fun h => h0 (Or.inr (by omega))
    by_cases h1 : 310 < dp
    · rw [if_pos h1]
      refine ⟨Nat.le_refl _, fun _ => rfl, by simp, ?_⟩
      simp only [true_iff]
      have hh := (V_head hd s dp (by omega) (s + dp - 1).toNat (by omega)).1
      have h9 := (num_head hd).2.2.1
      have e : 10 ^ (s + 310) ≤ 10 ^ (s + dp - 1).toNat := Nat.pow_le_pow_right (by decide) (by omega)
      have h3 : 1 * 10 ^ (s + dp - 1).toNat ≤ D.getD 0 0 * 10 ^ (s + dp - 1).toNat := Nat.mul_le_mul_right _ h9
      rw [p10_s] at e
      have h4 : thr * 10 ^ s ≤ p10 310 * 10 ^ s := Nat.mul_le_mul_right _ thr_310
      rw [Nat.mul_comm (p10 310)] at h4
      omega
    · rw [if_neg h1]
      have e1 : L1 s D dp 0 (10 * dp.toNat + 9) (lR1 D dp) := lL1_ok s _ D dp 0 hd (by unfold m1; have := (num_head hd).2.2.2.1; omega) (by omega)
      obtain ⟨a1, a2, a3, a4, a5, a6, a7⟩ := e1
      have e2 : L2 s (lR1 D dp).1 (lR1 D dp).2.1 0 (10 * (-(lR1 D dp).2.1).toNat + 10) (lR2 D dp) := lL2_ok s _ _ _ 0 a1 (by unfold m2; omega) a5 (by omega)
      obtain ⟨b1, b2, b3, b4, b5, b6, b7⟩ := e2
      generalize lR2 D dp = R2 at *
      generalize lR1 D dp = R1 at *
      obtain ⟨D1, dp1, e⟩ := R1
      obtain ⟨D2, dp2, j⟩ := R2
      simp only at *
      subst b5
      rw [Nat.pow_zero, Nat.mul_one] at a2 b2
      -- the value, scaled
      have hv : V s D2 0 * 2 ^ e = V s D dp * 2 ^ j := by rw [b2, ← a2, Nat.mul_right_comm]
      have hh := V_head b1 s 0 (by omega) (s - 1) (by omega)
      have h9 := (num_head b1).2.2.2.1
      have es : 10 ^ s = 10 * 10 ^ (s - 1) := by rw [← Nat.pow_succ']; congr 1; omega
      have hq : 0 < 10 ^ (s - 1) := Nat.pow_pos (by decide)
      have lo : 5 * 10 ^ (s - 1) ≤ V s D2 0 := Nat.le_trans (Nat.mul_le_mul_right _ b6) hh.1
      have hi : V s D2 0 < 10 ^ s := by
        rw [es]
        exact Nat.lt_of_lt_of_le hh.2 (Nat.mul_le_mul_right _ (by omega))
      have hj0 : 0 < 2 ^ j := Nat.two_pow_pos j
      -- shifted for the whole number
      have R3ok : ∀ x : Int, -400000 ≤ x → LOk (lR3 D2 x).1 ∧ V s (lR3 D2 x).1 (lR3 D2 x).2 ≤ V s D2 0 ∧ ((lR3 D2 x).1.length : Int) + 100 ≤ s + (lR3 D2 x).2 := by
        intro x hx
        unfold lR3
        split
        · obtain ⟨c1, c2, c3, c4, c5⟩ := lDn_ok s ((-1022 - x).toNat + 1) D2 0 (-1022 - x).toNat b1 (by omega) (by omega)
          refine ⟨c1, ?_, by omega⟩
          rw [← c2]
          exact Nat.le_mul_of_pos_right _ (Nat.two_pow_pos _)
        · exact ⟨b1, Nat.le_refl _, by simp only; omega⟩
      unfold lfin
      obtain ⟨x, hx⟩ : ∃ x : Int, x = (e : Int) - j - 1 := ⟨_, rfl⟩
      rw [← hx]
      have hx0 : -400000 ≤ x := by omega
      have hy : lY x = max (-1022) x := by unfold lY; split <;> omega
      rw [hy]
      by_cases hx1 : 1024 ≤ x
      · rw [if_pos (by omega)]
        refine ⟨Nat.le_refl _, fun _ => rfl, by simp, ?_⟩
        simp only [true_iff]
        obtain ⟨r, rfl⟩ : ∃ r, e = r + j + 1025 := ⟨e - j - 1025, by omega⟩
        have e0 : 2 ^ (r + j + 1025) = 2 ^ r * p2 1025 * 2 ^ j := by rw [p2_s, Nat.pow_add, Nat.mul_right_comm]
        rw [e0, ← Nat.mul_assoc] at hv
        have hv2 := Nat.eq_of_mul_eq_mul_right hj0 hv
        rw [← hv2, p2_1025, es]
        have t := thr_le
        have hr : 0 < 2 ^ r := Nat.two_pow_pos r
        generalize p2 1024 = c at *
        generalize 10 ^ (s - 1) = q at *
        generalize 2 ^ r = y at *
        have h2 : 5 * q * 1 ≤ V s D2 0 * y := Nat.mul_le_mul lo hr
        refine Nat.le_trans (Nat.mul_le_mul_right (10 * q) t) ?_
        have h3 := Nat.mul_le_mul_right (2 * c) h2
        rw [Nat.mul_one] at h3
        have h4 : c * (10 * q) = 5 * q * (2 * c) := by rw [show c * (10 * q) = 10 * (c * q) by ac_rfl, show 5 * q * (2 * c) = 5 * 2 * (c * q) by ac_rfl]
        rw [h4, ← Nat.mul_assoc (V s D2 0)]
        exact h3
      · rw [if_neg (by omega)]
        obtain ⟨r1, r2, r3⟩ := R3ok x hx0
        obtain ⟨u1, u2, u3, u4, u5⟩ := lUp_ok s 54 (lR3 D2 x).1 (lR3 D2 x).2 53 r1 (by decide) r3
        have e53 : (2 : Nat) ^ 53 = 9007199254740992 := rfl
        rw [e53] at u2
        have hlt4 : V s (lUp 54 (lR3 D2 x).1 (lR3 D2 x).2 53).1 (lUp 54 (lR3 D2 x).1 (lR3 D2 x).2 53).2 < 9007199254740992 * 10 ^ s := by
          rw [u2, Nat.mul_comm]
          exact Nat.mul_lt_mul_of_pos_left (Nat.lt_of_le_of_lt r2 hi) (by decide)
        have hm := wholeI_le s u1.dig (lUp 54 (lR3 D2 x).1 (lR3 D2 x).2 53).2 (by omega) hlt4
        obtain ⟨p1, p2', p3, p4⟩ := lpack_ok (wholeI (lUp 54 (lR3 D2 x).1 (lR3 D2 x).2 53).1 (lUp 54 (lR3 D2 x).1 (lR3 D2 x).2 53).2) (max (-1022) x) (by omega) (by omega) hm
        refine ⟨p1, p2', p4, ?_⟩
        rw [p3]
        by_cases hx2 : x = 1023
        · -- at the edge
          have hr3 : lR3 D2 x = (D2, 0) := by unfold lR3; rw [if_neg (by omega)]
          rw [hr3] at u1 u2 u3 u4 hlt4 ⊢
          have hej : e = j + 1024 := by omega
          subst hej
          rw [p2_s, ← Nat.mul_assoc, Nat.mul_right_comm] at hv
          have hv2 := Nat.eq_of_mul_eq_mul_right hj0 hv
          generalize lUp 54 (D2, (0 : Int)).1 (D2, (0 : Int)).2 53 = R4 at *
          obtain ⟨D4, dp4⟩ := R4
          simp only at *
          have hdp4 : 0 ≤ dp4 := by
            refine Decidable.byContradiction fun h => ?_
            have h5 := (V_head u1 s dp4 (by omega) (s + dp4 - 1).toNat (by omega)).2
            have h6 := (num_head u1).2.2.2.1
            have h7 : (D4.getD 0 0 + 1) * 10 ^ (s + dp4 - 1).toNat ≤ 10 * 10 ^ (s + dp4 - 1).toNat := Nat.mul_le_mul_right _ (by omega)
            have h8 : 10 ^ (s + dp4 - 1).toNat ≤ 10 ^ (s - 1) := Nat.pow_le_pow_right (by decide) (by omega)
            omega
          obtain ⟨n, rfl⟩ : ∃ n : Nat, dp4 = n := ⟨dp4.toNat, by omega⟩
          have hw := (whole_top s u1.dig n (by omega) 9007199254740992 (by decide) (by decide) hlt4).2
          have hwi : wholeI D4 (n : Int) = whole D4 n := by unfold wholeI; rw [if_neg (by omega)]; rfl
          rw [hwi, hw, u2, ← hv2, thr_d, p2_970]
          have h970 := p2_pos 970
          generalize p2 970 = c at *
          generalize V s D2 0 = v at *
          generalize 10 ^ s = t at *
          have e3 : 18014398509481983 * c * t = 18014398509481983 * t * c := by ac_rfl
          rw [e3, show v * (18014398509481984 * c) = v * 18014398509481984 * c from (Nat.mul_assoc _ _ _).symm]
          constructor
          · intro ⟨h, _⟩
            exact Nat.mul_le_mul_right _ (by omega)
          · intro h
            have := Nat.le_of_mul_le_mul_right h h970
            exact ⟨by omega, by omega⟩
        · -- below
          constructor
          · intro ⟨_, h⟩; omega
          · intro h
            exfalso
            have hej : e ≤ j + 1023 := ej_of e j x hx hx1 hx2
            have h2 : V s D2 0 * 2 ^ e < 10 ^ s * (2 ^ j * p2 1023) := by
              refine Nat.mul_lt_mul_of_lt_of_le hi ?_ (Nat.mul_pos hj0 (p2_pos _))
              rw [← p2_s]
              exact pw_mono hej
            rw [hv, Nat.mul_comm (2 ^ j), ← Nat.mul_assoc] at h2
            have h3 := Nat.lt_of_mul_lt_mul_right h2
            have h4 : p2 1023 * 10 ^ s < thr * 10 ^ s := Nat.mul_lt_mul_of_pos_right thr_lt hp
            rw [Nat.mul_comm (p2 1023)] at h4
            omega
end Go.Proofs.YtdfbokmjipdolaaGreatDoor
/- The light decimal in memory: a slice of digits that the call owns, and the point; its trim. -/
namespace Go.Proofs.YtdfbokmjipdolaaGreatDoor
open Go.RowKit

def u8s (D : List Nat) : List Value := D.map fun (d : Nat) => Value.int .u8 (d : Int)
theorem u8s_len (D : List Nat) : (u8s D).length = D.length := by simp [u8s]
theorem u8s_get (D : List Nat) (j : Nat) : (u8s D)[j]? = D[j]?.map fun (d : Nat) => Value.int .u8 (d : Int) := by simp [u8s]
structure LD (w : World) (B b g cap : Nat) (D : List Nat) (dp : Int) : Prop where
  blk : w.heap[b]? = some (.cells #[.slice (some ⟨g, 0, none⟩) D.length cap, .int .i64 dp] 157 (0, 0))
  own : w.ownsRow B 5 1 (.slice (some ⟨g, 0, none⟩) D.length cap) D.length (u8s D)
  hb : B ≤ b

variable {w w' : World} {B b g cap : Nat} {D : List Nat} {dp : Int}
theorem LD.lt (h : LD w B b g cap D dp) : b < w.heap.size := (Array.getElem?_eq_some_iff.1 h.blk).1
theorem LD.glt (h : LD w B b g cap D dp) : g < w.heap.size ∧ B ≤ g := by
  have := h.own.lt g rfl
  exact ⟨this.2, this.1⟩
theorem LD.row (h : LD w B b g cap D dp) : ∃ cur, w.heap[g]? = some (.cells cur 5 (0, 0)) ∧ D.length ≤ cap ∧ cap ≤ maxLen ∧ cur.size = cap ∧ cur.toList.take D.length = u8s D := by
  rcases h.own.2 with ⟨h1, _⟩ | ⟨g', cap', cur, h1, _, h2, h3, h4, h5, h6⟩
  · cases h1
  · simp only [Value.slice.injEq, Option.some.injEq, Addr.mk.injEq, and_true, true_and] at h1
    obtain ⟨rfl, rfl⟩ := h1
    exact ⟨cur, h2, h3, h4, by simpa using h5, by simpa using h6⟩
theorem LD.ne (h : LD w B b g cap D dp) : b ≠ g := by
  rintro rfl
  obtain ⟨cur, h1, _⟩ := h.row
  rw [h.blk] at h1
  simp at h1
theorem LD.c0 (h : LD w B b g cap D dp) : w.cell? ⟨b, 0, none⟩ = some (.slice (some ⟨g, 0, none⟩) D.length cap) := by
  rw [cell_of_row w b 0 _ 157 (0, 0) h.blk]; rfl
theorem LD.c1 (h : LD w B b g cap D dp) : w.cell? ⟨b, 1, none⟩ = some (.int .i64 dp) := by
  rw [cell_of_row w b 1 _ 157 (0, 0) h.blk]; rfl
theorem LD.f (h : LD w B b g cap D dp) (j : Nat) : w.frozen? ⟨b, j, none⟩ = false := frozen_of_row w b j _ 157 h.blk
theorem LD.fg (h : LD w B b g cap D dp) (j : Nat) : w.frozen? ⟨g, j, none⟩ = false := h.own.frozenAt j
theorem LD.cg (h : LD w B b g cap D dp) (j : Nat) (hj : j < D.length) : w.cell? ⟨g, j, none⟩ = some (.int .u8 (D.getD j 0 : Nat)) := by
  rw [h.own.cellAt j (by omega), u8s_get, List.getElem?_eq_getElem hj]
  simp [List.getD_eq_getElem?_getD, List.getElem?_eq_getElem hj]
theorem LD.capMax (h : LD w B b g cap D dp) : D.length ≤ cap ∧ cap ≤ 9223372036854775807 := by
  obtain ⟨_, _, h3, h4, _⟩ := h.row
  unfold maxLen at h4
  exact ⟨h3, h4⟩
theorem LD.drewN (h : LD w B b g cap D dp) (n : Nat) : LD (w.drewN n) B b g cap D dp := ⟨h.blk, h.own, h.hb⟩
theorem LD.grown {row : Option Nat} (h : LD w B b g cap D dp) (hg : w.grownBy w' row) (h1 : row ≠ some b) (h2 : row ≠ some g) : LD w' B b g cap D dp :=
  ⟨by rw [hg.block b h.lt (Ne.symm h1)]; exact h.blk, h.own.kept hg (Or.inr (Ne.symm h2)), h.hb⟩
theorem LD.below {n : Nat} (h : LD w B b g cap D dp) (hb : Below n w w') (h1 : b < n) (h2 : g < n) : LD w' B b g cap D dp := by
  refine ⟨by rw [hb.block b h1]; exact h.blk, ⟨h.own.1, ?_⟩, h.hb⟩
  rcases h.own.2 with ⟨h3, _⟩ | ⟨g', cap', cur, h3, h4, h5, h6⟩
  · cases h3
  · have h3' := h3
    simp only [Value.slice.injEq, Option.some.injEq, Addr.mk.injEq, and_true, true_and] at h3'
    obtain ⟨rfl, rfl⟩ := h3'
    exact Or.inr ⟨g, cap, cur, h3, h4, by rw [hb.block g h2]; exact h5, h6⟩
/-- the world with the decimal's two cells turned -/
theorem LD.turn (h : LD w B b g cap D dp) (j : Nat) (v : Value) (hj : j < 2) : (w.setCell ⟨b, j, none⟩ v).heap[b]? = some (.cells (#[.slice (some ⟨g, 0, none⟩) D.length cap, .int .i64 dp].setIfInBounds j v) 157 (0, 0)) := heap_setCell_same w b j _ 157 v h.blk
theorem LD.setDp (h : LD w B b g cap D dp) (x : Int) : LD (w.setCell ⟨b, 1, none⟩ (.int .i64 x)) B b g cap D x :=
  ⟨by rw [h.turn 1 _ (by decide)]; rfl, h.own.kept ⟨rfl, rfl, rfl, by simp, fun k _ hk => heap_setCell_other w ⟨b, 1, none⟩ k _ (fun e => hk (by simp [e]))⟩ (row := some b) (Or.inr (by
    show some g ≠ some b
    simpa using Ne.symm h.ne)), h.hb⟩
theorem LD.pop {F : List Nat} {x : Nat} (h : LD w B b g cap (F ++ [x]) dp) : LD (w.setCell ⟨b, 0, none⟩ (.slice (some ⟨g, 0, none⟩) F.length cap)) B b g cap F dp := by
  have hrow := h.row
  obtain ⟨cur, r1, r2, r3, r4, r5⟩ := hrow
  refine ⟨by rw [h.turn 0 _ (by decide)]; rfl, ⟨by simp [u8s_len], Or.inr ⟨g, cap, cur, rfl, h.glt.2, ?_, ?_, r3, by simpa using r4, ?_⟩⟩, h.hb⟩
  · rw [heap_setCell_other w ⟨b, 0, none⟩ g _ (Ne.symm h.ne)]; exact r1
  · simp at r2; omega
  · have : cur.toList.take (F ++ [x]).length = u8s F ++ [Value.int .u8 (x : Int)] := by rw [r5]; simp [u8s]
    have h2 := congrArg (List.take F.length) this
    rw [List.take_take, List.take_append_of_le_length (by simp [u8s_len])] at h2
    rw [Nat.mul_one]
    rw [show min F.length (F ++ [x]).length = F.length by simp] at h2
    rw [h2, List.take_of_length_le (by simp [u8s_len])]
theorem Below.setB {B0 : Nat} {w0 : World} (h : Below B0 w0 w) {j : Nat} (hb : B0 ≤ b) (v : Value) (n : Nat) : Below B0 w0 ((w.setCell ⟨b, j, none⟩ v).drewN n) := by
  have := h.setCell (p := ⟨b, j, none⟩) hb v
  exact ⟨this.os, this.tape, this.output, this.size, this.block⟩
theorem Below.dr {B0 : Nat} {w0 : World} (h : Below B0 w0 w) (n : Nat) : Below B0 w0 (w.drewN n) := ⟨h.os, h.tape, h.output, h.size, h.block⟩

/-- of what was there only block b may have turned -/
def Fr (b : Nat) (w w' : World) : Prop := w.grownBy w' (some b)
section
variable {w0 w1 w2 : World} {b : Nat}
theorem Fr.refl (b : Nat) (w : World) : Fr b w w := ⟨rfl, rfl, rfl, Nat.le_refl _, fun _ _ _ => rfl⟩
theorem Fr.trans (h : Fr b w0 w1) (h2 : Fr b w1 w2) : Fr b w0 w2 := by
  unfold Fr at *
  exact ⟨h2.os.trans h.os, h2.tape.trans h.tape, h2.output.trans h.output, Nat.le_trans h.size h2.size, fun k hk hb => (h2.block k (Nat.lt_of_lt_of_le hk h.size) hb).trans (h.block k hk hb)⟩
theorem Fr.dr (h : Fr b w0 w1) (n : Nat) : Fr b w0 (w1.drewN n) := by
  unfold Fr at *
  exact ⟨h.os, h.tape, h.output, h.size, h.block⟩
theorem Fr.set (h : Fr b w0 w1) (j : Nat) (v : Value) : Fr b w0 (w1.setCell ⟨b, j, none⟩ v) := by
  unfold Fr at *
  refine ⟨h.os, h.tape, h.output, by simpa using h.size, fun k hk hb => ?_⟩
  rw [heap_setCell_other w1 ⟨b, j, none⟩ k v (fun e => hb (by simp [e]))]
  exact h.block k hk hb
theorem Fr.setB (h : Fr b w0 w1) {j : Nat} (v : Value) (n : Nat) : Fr b w0 ((w1.setCell ⟨b, j, none⟩ v).drewN n) := (h.set j v).dr n
theorem Fr.row (h : Fr b w0 w1) {g : Nat} (hg : w0.heap.size ≤ g) (j : Nat) (v : Value) : Fr b w0 (w1.setCell ⟨g, j, none⟩ v) := by
  unfold Fr at *
  refine ⟨h.os, h.tape, h.output, by simpa using h.size, fun k hk hb => ?_⟩
  rw [heap_setCell_other w1 ⟨g, j, none⟩ k v (by simp; omega)]
  exact h.block k hk hb
theorem Fr.below (h : Fr b w0 w1) {B : Nat} (hB : B ≤ b) (hb : b < w0.heap.size) : Below B w0 w1 := by
  unfold Fr at h
  exact ⟨h.os, h.tape, h.output, h.size, fun k hk => h.block k (by omega) (by simp; omega)⟩
theorem Fr.cell (h : Fr b w0 w1) {k j : Nat} {v : Value} (hc : w0.cell? ⟨k, j, none⟩ = some v) (hk : k ≠ b) : w1.cell? ⟨k, j, none⟩ = some v := by
  unfold Fr at h
  exact h.cell hc (by simpa using hk)
end
def LTrimPost (w : World) (B b g cap : Nat) (D : List Nat) (dp : Int) (e : Ending) (w' : World) : Prop := e = .returned (.pointer (some ⟨b, 0, none⟩)) ∧ LD w' B b g cap (ltrim D) dp ∧ Fr b w w'
set_option maxRecDepth 100000 in
set_option maxHeartbeats 1000000 in
theorem ltrimW_any (w : World) (B b g cap : Nat) (D : List Nat) (dp : Int) (h : LD w B b g cap D dp) (hd : D.head? ≠ some 0) (hne : D ≠ []) (hlen : D.length ≤ 1000000) :
    Calls Tryz.prog 86 #[.pointer (some ⟨b, 0, none⟩)] w (LTrimPost w B b g cap D dp) := by
  have H := Lib.hid h
  have Hd := Lib.hid hd
  have Hne := Lib.hid hne
  clear h hd hne
  go_enter Tryz.func86, Tryz.ntmps86
  go_wp2_with fail
  go_loopg [] D.length (fun gm wx => ∃ E : List Nat, gm = E.length ∧ LD wx B b g cap E dp ∧ E.head? ≠ some 0 ∧ E ≠ [] ∧ ltrim E = ltrim D ∧ E.length ≤ 1000000 ∧ Fr b w wx)
  case atStart => exact ⟨D, rfl, H.out, Hd.out, Hne.out, rfl, hlen, Fr.refl _ _⟩
  case round =>
    obtain ⟨E, hg, hE, hEh, hEn, hEt, hEl, hB⟩ := hrel
    obtain ⟨F, x, rfl⟩ := list_snoc E hEn
    have Hg := Lib.hid hg
    have HE := Lib.hid hE
    have HEh := Lib.hid hEh
    have HEt := Lib.hid hEt
    have HB := Lib.hid hB
    clear hg hEh hEt hEn hB
    obtain ⟨m, hm⟩ : ∃ m, m = F.length := ⟨_, rfl⟩
    have eln : (F ++ [x]).length = m + 1 := by rw [hm]; simp
    have c0 := hE.c0
    have c1 := hE.c1
    have cm := hE.cg m (by omega)
    have f0 := hE.f 0
    have hcap := hE.capMax
    rw [eln] at c0 hcap hEl
    have hx : (F ++ [x]).getD m 0 = x := by rw [hm]; simp
    rw [hx] at cm
    have Hm := Lib.hid hm
    have hbb := hE.hb
    clear hE hx hm eln
    by_cases h0 : x = 0
    · subst h0
      go_wp2_with fail
      go_quiet (fail)
      go_wp2_with fail
      obtain ⟨W, hW⟩ : ∃ W, W = wr.drewN nq := ⟨_, rfl⟩
      rw [← hW]
      have c0' : W.cell? ⟨b, 0, none⟩ = some (.slice (some ⟨g, 0, none⟩) (m + 1) cap) := by rw [hW]; exact c0
      have f0' : W.frozen? ⟨b, 0, none⟩ = false := by rw [hW]; exact f0
      have HW := Lib.hid hW
      clear hW c0 c1 f0 cm
      go_region
      all_goals
        go_wp2_with fail
        go_roundg m
        case measure => have := Hg.out; have := Hm.out; simp at *; omega
        case rel =>
          refine ⟨F, Hm.out, ?_, ?_, ?_, ?_, by have := Hm.out; omega, ?_⟩
          · rw [HW.out, Hm.out]; exact (LD.pop (HE.out.drewN nq)).drewN 1
          · have := HEh.out
            cases F with
            | nil => simp at this
            | cons y t => simpa using this
          · rintro rfl
            exact HEh.out rfl
          · rw [← HEt.out, ltrim_zero]
          · rw [HW.out, Hm.out]; exact Fr.setB (Fr.dr HB.out nq) _ 1
    · have hlast := ltrim_last F x h0
      have q : ((x : Int) == 0) = false := by rw [beq_eq_false_iff_ne]; omega
      have Hl := Lib.hid hlast
      have H0 := Lib.hid h0
      clear hlast h0
      go_wp2_with fail
      go_quiet (fail)
      go_wp2_with fail
      go_ret
      exact ⟨rfl, by rw [← HEt.out, Hl.out]; exact HE.out.drewN _, Fr.dr HB.out _⟩
end Go.Proofs.YtdfbokmjipdolaaGreatDoor
