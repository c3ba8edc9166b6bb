/- Texts of the proof, joined: C17, C21, C22. -/
import Derived.Test.YtdfbokmjipdolaaGreatDoorC16
import Derived.Test.YtdfbokmjipdolaaGreatDoorQ13
import Derived.Test.YtdfbokmjipdolaaGreatDoorQ6
set_option linter.unusedVariables false
set_option linter.unusedSimpArgs false
/- floatBits of Go's own decimal, at every place of the point. -/
namespace Go.Proofs.YtdfbokmjipdolaaGreatDoor
open Go.RowKit

theorem fbits_any (w : World) (b : Nat) (t : TypeId) (d : Array Nat) (n : Nat) (dp : Int) (ng tr : Bool) (hb : b < w.heap.size) (hd : DN d n) (hdp : -360 ≤ dp) (hdp' : dp ≤ 20000) (hb4 : b ≠ 4) (hi : InfoAt w) (hlc : LcAt w b) (hpw : PwAt w b) :
    Calls Tryz.prog 74 #[.pointer (some ⟨b, 0, none⟩), .pointer (some ⟨4, 0, none⟩)] (wD w b t d n dp ng tr) (FBPost w b t (sv d n dp) ng) := by
  by_cases h1 : 310 < dp
  · exact fbits_over w b t d n dp ng tr hb hd h1 hdp' hb4 hi
  · by_cases h2 : dp < -330
    · exact fbits_zero w b t d n dp ng tr hb hd hdp h2 hb4 hi
    · exact fbits_main w b t d n dp ng tr hb hd (by omega) (by omega) hb4 hi hlc hpw
end Go.Proofs.YtdfbokmjipdolaaGreatDoor
/- Plain words for atof64: the text up to readFloat's end reads the same; when a decimal text is too large. -/
namespace Go.Proofs.YtdfbokmjipdolaaGreatDoor
open Go.RowKit

theorem mRun_pre (hex : Bool) : ∀ (l : List Nat) (st st' : MS) (R : List Nat), mRun hex l st = (st', R) → ∃ A, l = A ++ R ∧ ∀ R', (R' = [] ∨ R'.head? = R.head?) → mRun hex (A ++ R') st = (st', R')
  | [], st, st', R, h => by
    rw [mRun_end] at h
    obtain ⟨rfl, rfl⟩ := Prod.mk.inj h
    refine ⟨[], rfl, fun R' hR => ?_⟩
    rcases hR with rfl | hR
    · rfl
    · cases R' with
      | nil => rfl
      | cons c r => cases hR
  | c :: r, st, st', R, h => by
    cases hs : mStep hex c st with
    | none =>
      rw [mRun_stop hex c r st hs] at h
      obtain ⟨rfl, rfl⟩ := Prod.mk.inj h
      refine ⟨[], rfl, fun R' hR => ?_⟩
      rcases hR with rfl | hR
      · rfl
      · cases R' with
        | nil => cases hR
        | cons c' r' =>
          simp only [List.head?_cons, Option.some.injEq] at hR
          subst hR
          exact mRun_stop hex c' r' st hs
    | some st1 =>
      rw [mRun_cons hex c r st st1 hs] at h
      obtain ⟨A, h1, h2⟩ := mRun_pre hex r st1 st' R h
      refine ⟨c :: A, by rw [h1]; rfl, fun R' hR => ?_⟩
      rw [List.cons_append, mRun_cons hex c _ st st1 hs]
      exact h2 R' hR
theorem eRun_pre : ∀ (l : List Nat) (e : Nat) (u : Bool) (X : Nat × Bool) (R : List Nat), eRun l e u = (X, R) → ∃ A, l = A ++ R ∧ eRun A e u = (X, [])
  | [], e, u, X, R, h => by
    rw [eRun_nil] at h
    obtain ⟨rfl, rfl⟩ := Prod.mk.inj h
    exact ⟨[], rfl, rfl⟩
  | c :: r, e, u, X, R, h => by
    by_cases h95 : c = 95
    · rw [eRun_us c r e u h95] at h
      obtain ⟨A, h1, h2⟩ := eRun_pre r e true X R h
      exact ⟨c :: A, by rw [h1]; rfl, by rw [eRun_us c A e u h95]; exact h2⟩
    · by_cases hd : 48 ≤ c ∧ c ≤ 57
      · rw [eRun_dig c r e u hd.1 hd.2] at h
        obtain ⟨A, h1, h2⟩ := eRun_pre r _ u X R h
        exact ⟨c :: A, by rw [h1]; rfl, by rw [eRun_dig c A e u hd.1 hd.2]; exact h2⟩
      · rw [eRun_stop c r e u h95 hd] at h
        obtain ⟨rfl, rfl⟩ := Prod.mk.inj h
        exact ⟨[], rfl, rfl⟩
theorem xr1_pre (sg : Int) (r : List Nat) (X : Int × Bool) (R : List Nat) (h : xr1 sg r = some (X, R)) : ∃ c A, r = (c :: A) ++ R ∧ xr1 sg (c :: A) = some (X, []) ∧ 48 ≤ c ∧ c ≤ 57 := by
  cases r with
  | nil => cases h
  | cons c t =>
    by_cases hb : c < 48 ∨ 57 < c
    · rw [xr1_bad sg c t hb] at h; cases h
    · have hd : 48 ≤ c ∧ c ≤ 57 := by omega
      rw [xr1_ok sg c t hb] at h
      obtain ⟨hX, hR⟩ := Prod.mk.inj (Option.some.inj h)
      have e1 := eRun_dig c t 0 false hd.1 hd.2
      obtain ⟨A, h1, h2⟩ := eRun_pre t _ false _ _ (Prod.eta (eRun t (if (0 : Nat) < 10000 then 0 * 10 + (c - 48) else 0) false)).symm
      rw [← e1, hR] at h1
      rw [← e1] at h2
      have h3 : eRun (c :: A) 0 false = ((eRun (c :: t) 0 false).1, []) := by rw [eRun_dig c A 0 false hd.1 hd.2]; exact h2
      refine ⟨c, A, by rw [h1]; rfl, ?_, hd⟩
      rw [xr1_ok sg c A hb, h3, ← hX]
theorem xRead_pre (r : List Nat) (X : Int × Bool) (R : List Nat) (h : xRead r = some (X, R)) : ∃ A, r = A ++ R ∧ xRead A = some (X, []) := by
  rw [xRead_eq] at h
  obtain ⟨c, A, h1, h2, h3, h4⟩ := xr1_pre _ _ _ _ h
  cases r with
  | nil => simp [xRest] at h1
  | cons s t =>
    by_cases hs : s = 45 ∨ s = 43
    · have e1 : xRest (s :: t) = t := by unfold xRest; simp [hs]
      rw [e1] at h1
      refine ⟨s :: c :: A, by rw [h1]; rfl, ?_⟩
      rw [xRead_eq]
      have e2 : xRest (s :: c :: A) = c :: A := by unfold xRest; simp [hs]
      have e3 : xSg (s :: c :: A) = xSg (s :: t) := rfl
      rw [e2, e3]
      exact h2
    · have e1 : xRest (s :: t) = s :: t := by unfold xRest; simp [hs]
      rw [e1] at h1
      obtain ⟨rfl, h5⟩ := List.cons.inj h1
      refine ⟨s :: A, h1, ?_⟩
      rw [xRead_eq]
      have e2 : xRest (s :: A) = s :: A := by unfold xRest; simp [hs]
      have e3 : xSg (s :: A) = xSg (s :: t) := rfl
      rw [e2, e3]
      exact h2

/-- 10^scale times the digits' value does not depend on the scale -/
theorem V_scale (t s : Nat) (D : List Nat) (x : Int) (h : (D.length : Int) ≤ t + x) (hts : t ≤ s) : V s D x = V t D x * 10 ^ (s - t) := by
  unfold V
  rw [Nat.mul_assoc, ← Nat.pow_add]
  congr 2
  omega
/-- a decimal text's digits, the point at x, are too large a number -/
def decBig (D : List Nat) (x : Int) : Prop := ∀ s : Nat, 100000000 ≤ s → thr * 10 ^ s ≤ V s D x
theorem decBig_at (t : Nat) (D : List Nat) (x : Int) (h : (D.length : Int) ≤ t + x) (ht : t ≤ 100000000) : decBig D x ↔ thr * 10 ^ t ≤ V t D x := by
  constructor
  · intro hb
    have h1 := hb 100000000 (Nat.le_refl _)
    rw [V_scale t 100000000 D x h ht, show (100000000 : Nat) = t + (100000000 - t) by omega, Nat.pow_add, ← Nat.mul_assoc, show t + (100000000 - t) - t = 100000000 - t by omega] at h1
    exact Nat.le_of_mul_le_mul_right h1 (Nat.pow_pos (by decide))
  · intro hb s hs
    rw [V_scale t s D x h (by omega)]
    have := Nat.mul_le_mul_right (10 ^ (s - t)) hb
    rw [Nat.mul_assoc, ← Nat.pow_add, show t + (s - t) = s by omega] at this
    exact this
theorem hasSign_take (l : List Nat) (A R : List Nat) (hA : A ≠ []) (h : l = A ++ R) : hasSign A = hasSign l := by
  cases A with
  | nil => exact absurd rfl hA
  | cons c t => rw [h]; rfl
/-- the text up to readFloat's end, read by decimal.set -/
theorem set_take (l : List Nat) (r : RF) (h : rf l = some r) (hx : rfHex l = false) :
    r.i ≤ l.length ∧ 0 < r.i ∧ r.hex = false ∧ r.mant = num 10 ((rfFin l).1.D.take 19) ∧ r.tr = trOf false (rfFin l).1.D ∧ (setF (l.take r.i)).1 = (rfFin l).1 ∧
    ∃ x : Int, setX (l.take r.i) = some x ∧ (r.mant ≠ 0 → r.exp = x - (min 19 (rfFin l).1.D.length : Nat)) := by
  have hF : rfFin l = mRun false (l.drop (rfI0 l)) .start := by unfold rfFin rfI1; rw [hx]; rfl
  obtain ⟨F, hFe⟩ : ∃ F, F = rfFin l := ⟨_, rfl⟩
  rw [← hFe] at hF ⊢
  obtain ⟨A, hA1, hA2⟩ := mRun_pre false _ _ F.1 F.2 hF.symm
  unfold rf at h
  by_cases hl : l = []
  · rw [if_pos hl] at h; cases h
  rw [if_neg hl, ← hFe] at h
  cases hdg : F.1.digs
  · rw [hdg] at h; cases h
  rw [hdg, if_pos rfl, hx] at h
  have hAne : A ≠ [] := by
    intro he
    have := hA2 [] (Or.inl rfl)
    rw [he, List.append_nil, mRun_end] at this
    have h2 : F.1 = .start := (Prod.mk.inj this).1.symm
    rw [h2] at hdg
    cases hdg
  obtain ⟨P, hP⟩ : ∃ P, P = l.take (rfI0 l) := ⟨_, rfl⟩
  have hI : rfI0 l ≤ 1 := by unfold rfI0; split <;> omega
  have hlen0 : 0 < l.length := List.length_pos_iff.2 hl
  have hPl : P.length = rfI0 l := by rw [hP, List.length_take]; omega
  have hsplit : l = P ++ (A ++ F.2) := by rw [hP, ← hA1, List.take_append_drop]
  -- a text that goes on as l does, at least through A
  have hset : ∀ R', (R' = [] ∨ R'.head? = F.2.head?) → setF (P ++ (A ++ R')) = (F.1, R') := by
    intro R' hR
    have hPA : P ++ A ≠ [] := by simp [hAne]
    have hs : hasSign (P ++ (A ++ R')) = hasSign l := by
      have h1 : hasSign (P ++ A) = hasSign l := hasSign_take l (P ++ A) F.2 hPA (by rw [List.append_assoc]; exact hsplit)
      have h2 : hasSign (P ++ A) = hasSign (P ++ (A ++ R')) := hasSign_take _ (P ++ A) R' hPA (by rw [List.append_assoc])
      rw [← h2, h1]
    have hi : rfI0 (P ++ (A ++ R')) = P.length := by rw [hPl]; unfold rfI0; rw [hs]
    unfold setF
    rw [hi, List.drop_left]
    exact hA2 R' hR
  have take_of : ∀ X Y : List Nat, l = X ++ Y → l.take (l.length - Y.length) = X := by
    intro X Y e
    have e2 : l.length - Y.length = X.length := by rw [e, List.length_append]; omega
    rw [e2, e, List.take_left]
  unfold rfExpo at h
  by_cases hm : F.2.head?.map lw = some (mark false)
  · rw [if_pos hm] at h
    obtain ⟨c, t, hct⟩ : ∃ c t, F.2 = c :: t := by
      cases hF2 : F.2 with
      | nil => rw [hF2] at hm; cases hm
      | cons c t => exact ⟨c, t, rfl⟩
    cases hxr : xRead F.2.tail with
    | none => rw [hxr] at h; cases h
    | some X =>
      obtain ⟨⟨e, u⟩, rest⟩ := X
      rw [hxr] at h
      simp only at h
      rw [hct, List.tail_cons] at hxr
      obtain ⟨B, hB1, hB2⟩ := xRead_pre t _ _ hxr
      have hl2 : l = (P ++ (A ++ c :: B)) ++ rest := by rw [hsplit, hct, hB1]; simp
      unfold rfEnd at h
      split at h
      · cases h
      · injection h with h
        subst h
        simp only
        rw [take_of _ rest hl2, hset (c :: B) (Or.inr (by rw [hct]; rfl))]
        refine ⟨by omega, ?_, trivial, rfl, trivial, rfl, F.1.dp + e, ?_, ?_⟩
        · have : l.length = P.length + (A.length + (B.length + 1)) + rest.length := by rw [hl2]; simp; omega
          omega
        · unfold setX
          rw [hset (c :: B) (Or.inr (by rw [hct]; rfl))]
          rw [hct] at hm
          have hmk : mkAt false (c :: B) 0 = true := by unfold mkAt; simpa using hm
          simp only [hdg, if_true, hmk, List.tail_cons, hB2]
        · intro hmn
          have hmn' : num (bse false) (F.1.D.take (mx false)) ≠ 0 := hmn
          rw [if_pos hmn']
          simp [four, mx]
  · rw [if_neg hm] at h
    simp only [Bool.false_eq_true, if_false] at h
    unfold rfEnd at h
    split at h
    · cases h
    · injection h with h
      subst h
      simp only
      have hl2 : l = (P ++ (A ++ [])) ++ F.2 := by rw [List.append_nil, List.append_assoc]; exact hsplit
      rw [take_of _ F.2 hl2, hset [] (Or.inl rfl)]
      refine ⟨by omega, ?_, trivial, rfl, trivial, rfl, F.1.dp, ?_, ?_⟩
      · have h1 : l.length = P.length + A.length + F.2.length := by rw [congrArg List.length hsplit, List.length_append, List.length_append, Nat.add_assoc]
        have h2 : 0 < A.length := List.length_pos_iff.2 hAne
        omega
      · unfold setX
        rw [hset [] (Or.inl rfl)]
        have hmk : mkAt false ([] : List Nat) 0 = false := by decide
        simp only [hdg, if_true, hmk]
        rfl
      · intro hmn
        have hmn' : num (bse false) (F.1.D.take (mx false)) ≠ 0 := hmn
        rw [if_pos hmn']
        simp [four, mx]
end Go.Proofs.YtdfbokmjipdolaaGreatDoor
/- Plain words for atof64: which way it goes, and what each says of the whole text's value. -/
namespace Go.Proofs.YtdfbokmjipdolaaGreatDoor
open Go.RowKit

structure MSOk (hex : Bool) (st : MS) : Prop where
  dig : ∀ x ∈ st.D, x < bse hex
  lead : st.D.head? ≠ some 0
theorem digOf_lt {hex : Bool} {c d : Nat} (h : digOf hex c = some d) : d < bse hex := by
  unfold digOf at h
  split at h
  · injection h with h; cases hex <;> simp [bse] <;> omega
  · split at h
    · rename_i h1 h2; injection h with h; obtain ⟨rfl, _, _⟩ := h2; simp [bse]; omega
    · cases h
theorem mStep_ok {hex : Bool} {c : Nat} {st st' : MS} (h : MSOk hex st) (hs : mStep hex c st = some st') : MSOk hex st' := by
  unfold mStep at hs
  split at hs
  · injection hs with hs; subst hs; exact ⟨h.dig, h.lead⟩
  · split at hs
    · split at hs
      · cases hs
      · injection hs with hs; subst hs; exact ⟨h.dig, h.lead⟩
    · cases hd : digOf hex c with
      | none => rw [hd] at hs; cases hs
      | some d =>
        rw [hd] at hs
        simp only [Option.map_some, Option.some.injEq] at hs
        subst hs
        have hb := digOf_lt hd
        unfold MS.digit
        split
        · exact ⟨h.dig, h.lead⟩
        · rename_i hn
          refine ⟨fun x hx => ?_, ?_⟩
          · rcases List.mem_append.1 hx with hx | hx
            · exact h.dig x hx
            · rw [List.mem_singleton.1 hx]; exact hb
          · simp only
            cases hD : st.D with
            | nil => simp only [List.nil_append, List.head?_cons, ne_eq, Option.some.injEq]; exact fun hz => hn ⟨hD, hz⟩
            | cons x r => have := h.lead; rw [hD] at this; simpa using this
theorem mRun_ok (hex : Bool) : ∀ (l : List Nat) (st : MS), MSOk hex st → MSOk hex (mRun hex l st).1
  | [], st, h => by rw [mRun_end]; exact h
  | c :: r, st, h => by
    cases hs : mStep hex c st with
    | none => rw [mRun_stop hex c r st hs]; exact h
    | some st1 => rw [mRun_cons hex c r st st1 hs]; exact mRun_ok hex r st1 (mStep_ok h hs)
theorem start_ok (hex : Bool) : MSOk hex .start := ⟨by simp [MS.start], by simp [MS.start]⟩
theorem rfFin_ok (l : List Nat) : MSOk (rfHex l) (rfFin l).1 := mRun_ok _ _ _ (start_ok _)
theorem mRun_len (hex : Bool) : ∀ (l : List Nat) (st : MS), (mRun hex l st).1.D.length ≤ st.D.length + l.length
  | [], st => by rw [mRun_end]; simp
  | c :: r, st => by
    cases hs : mStep hex c st with
    | none => rw [mRun_stop hex c r st hs]; simp
    | some st1 =>
      rw [mRun_cons hex c r st st1 hs]
      have h1 := mRun_len hex r st1
      have h2 : st1.D.length ≤ st.D.length + 1 := by
        unfold mStep at hs
        split at hs
        · injection hs with hs; subst hs; simp
        · split at hs
          · split at hs
            · cases hs
            · injection hs with hs; subst hs; simp
          · cases hd : digOf hex c with
            | none => rw [hd] at hs; cases hs
            | some d =>
              rw [hd] at hs
              simp only [Option.map_some, Option.some.injEq] at hs
              subst hs
              unfold MS.digit
              split <;> simp
      simp only [List.length_cons]; omega
theorem rfFin_len (l : List Nat) : (rfFin l).1.D.length ≤ l.length := by
  have h := mRun_len (rfHex l) (l.drop (rfI1 l)) .start
  have h2 : (MS.start).D.length = 0 := rfl
  rw [h2, List.length_drop] at h
  unfold rfFin
  omega

theorem thr_64 : 18446744073709551616 ≤ thr := by decide +kernel
theorem thr_311 : thr ≤ p10 311 := by decide +kernel
theorem p10_ge (a b : Nat) (h : a ≤ b) : p10 a ≤ 10 ^ b := Nat.pow_le_pow_right (by decide) h
attribute [local irreducible] p2 p10
/-- the first 19 digits beside all of them -/
theorem cut19 {D : List Nat} (hd : ∀ x ∈ D, x < 10) : num 10 (D.take 19) * 10 ^ (D.length - 19) ≤ num 10 D ∧ num 10 D < (num 10 (D.take 19) + 1) * 10 ^ (D.length - 19) ∧ (trOf false D = false → num 10 D = num 10 (D.take 19) * 10 ^ (D.length - 19)) ∧ num 10 (D.take 19) < 10000000000000000000 := by
  have e : num 10 D = num 10 (D.take 19) * 10 ^ (D.length - 19) + num 10 (D.drop 19) := by
    conv => lhs; rw [← List.take_append_drop 19 D, num_append, List.length_drop]
  have h1 := num_lt 10 (by decide) (D.drop 19) (fun x hx => hd x (List.mem_of_mem_drop hx))
  have h2 := num_lt 10 (by decide) (D.take 19) (fun x hx => hd x (List.mem_of_mem_take hx))
  rw [List.length_drop] at h1
  refine ⟨by omega, by rw [Nat.add_mul]; omega, fun ht => ?_, ?_⟩
  · have hz : ∀ E : List Nat, E.any (· != 0) = false → num 10 E = 0 := by
      intro E hE
      have : E = List.replicate E.length 0 := by
        refine List.eq_replicate_iff.2 ⟨rfl, fun x hx => ?_⟩
        have := List.any_eq_false.1 hE x hx
        simpa using this
      rw [this, num_zeros]
    have ht' : (D.drop 19).any (· != 0) = false := ht
    rw [e, hz _ ht']; omega
  · refine Nat.lt_of_lt_of_le h2 ?_
    have : (D.take 19).length ≤ 19 := by rw [List.length_take]; omega
    exact Nat.le_trans (Nat.pow_le_pow_right (by decide) this) (by decide)

theorem big_scale (m t : Nat) (p : Int) (hm : m < 18446744073709551616) (ht : 0 ≤ (t : Int) + p) : big m p ↔ thr * 10 ^ t ≤ m * 10 ^ ((t : Int) + p).toNat := by
  have hp : 0 < 10 ^ t := Nat.pow_pos (by decide)
  rcases Int.lt_or_le p 0 with h | h
  · constructor
    · intro hb; exact absurd hb.1 (by omega)
    · intro hb
      exfalso
      have h1 : 10 ^ ((t : Int) + p).toNat ≤ 10 ^ t := Nat.pow_le_pow_right (by decide) (by omega)
      have h2 : m * 10 ^ ((t : Int) + p).toNat ≤ m * 10 ^ t := Nat.mul_le_mul_left _ h1
      have h3 : m * 10 ^ t < thr * 10 ^ t := Nat.mul_lt_mul_of_pos_right (Nat.lt_of_lt_of_le hm thr_64) hp
      omega
  · obtain ⟨k, rfl⟩ : ∃ k : Nat, p = k := ⟨p.toNat, by omega⟩
    have e : ((t : Int) + k).toNat = k + t := by omega
    rw [e, Nat.pow_add, ← Nat.mul_assoc]
    unfold big
    constructor
    · intro hb; exact Nat.mul_le_mul_right _ hb.2
    · intro hb; exact ⟨by omega, Nat.le_of_mul_le_mul_right hb hp⟩
section
variable {D : List Nat} {x p : Int}
theorem decBig_cut (hd : ∀ x ∈ D, x < 10) (hlen : D.length ≤ 400) (hx : -400000 ≤ x) (hp : p = x - (min 19 D.length : Nat)) :
    (big (num 10 (D.take 19)) p → decBig D x) ∧ (decBig D x → big (num 10 (D.take 19) + 1) p) ∧ (trOf false D = false → decBig D x → big (num 10 (D.take 19)) p) := by
  obtain ⟨c1, c2, c3, c4⟩ := cut19 hd
  have hs := decBig_at 500000 D x (by omega) (by decide)
  have e : 10 ^ (((500000 : Nat) : Int) + p).toNat = 10 ^ (D.length - 19) * 10 ^ (((500000 : Nat) : Int) + x - D.length).toNat := by rw [← Nat.pow_add]; congr 1; omega
  rw [hs]
  rw [big_scale _ 500000 p (by omega) (by omega), big_scale _ 500000 p (by omega) (by omega), e]
  unfold V
  rw [← Nat.mul_assoc, ← Nat.mul_assoc]
  generalize 10 ^ (((500000 : Nat) : Int) + x - D.length).toNat = q
  generalize thr * 10 ^ 500000 = y
  refine ⟨fun h => Nat.le_trans h (Nat.mul_le_mul_right _ c1), fun h => Nat.le_trans h (Nat.mul_le_mul_right _ (Nat.le_of_lt c2)), fun ht h => ?_⟩
  rw [c3 ht] at h
  exact h
theorem big_hi {m : Nat} (hm : 1 ≤ m) (hp : 310 < p) : big m p := by
  refine ⟨by omega, ?_⟩
  have h1 : p10 311 ≤ 10 ^ p.toNat := p10_ge _ _ (by omega)
  have h2 : 1 * 10 ^ p.toNat ≤ m * 10 ^ p.toNat := Nat.mul_le_mul_right _ hm
  have := thr_311
  omega
theorem big_lo {m : Nat} (hp : p < 0) : ¬ big m p := fun h => absurd h.1 (by omega)
theorem decBig_nil : ¬ decBig [] x := by
  intro h
  obtain ⟨t, ht⟩ : ∃ t : Nat, 100000000 ≤ t := ⟨_, Nat.le_refl _⟩
  have h1 := h t ht
  have h2 : 0 < thr * 10 ^ t := Nat.mul_pos (Nat.lt_of_lt_of_le (by decide) thr_64) (Nat.pow_pos (by decide))
  unfold V at h1
  have e : num 10 [] = 0 := rfl
  rw [e, Nat.zero_mul] at h1
  omega
end
theorem take_ne {D : List Nat} (hd : ∀ x ∈ D, x < 10) (hl : D.head? ≠ some 0) : num 10 (D.take 19) = 0 ↔ D = [] := by
  constructor
  · intro h
    cases D with
    | nil => rfl
    | cons x r =>
      exfalso
      have hx : x ≠ 0 := by simpa using hl
      rw [List.take_succ_cons, num_split] at h
      have : 0 < x * 10 ^ (r.take 18).length := Nat.mul_pos (by omega) (Nat.pow_pos (by decide))
      omega
  · rintro rfl; rfl
/-- the slow way's number is the text's -/
theorem bigS_dec {D : List Nat} {d : Array Nat} {n : Nat} {x : Int} (h : SOk D d n) (hn : n ≤ 400) (hx : -360 ≤ x) : bigS (sv d n x) ↔ decBig D x := by
  have hlen := h.len
  rw [decBig_at 1200 D x (by omega) (by decide)]
  unfold bigS sv V
  rw [h.val, hlen, p10_def]
  rfl
theorem SOk.dn {D : List Nat} {d : Array Nat} {n : Nat} (h : SOk D d n) (hs : d.size = 800) (hD : D ≠ []) (hn : n ≤ 400) : DN d n := by
  have h0 : 0 < n := by rw [h.len]; exact List.length_pos_iff.2 hD
  exact ⟨hs, h0, by omega, h.dig, h.lead h0⟩
end Go.Proofs.YtdfbokmjipdolaaGreatDoor
