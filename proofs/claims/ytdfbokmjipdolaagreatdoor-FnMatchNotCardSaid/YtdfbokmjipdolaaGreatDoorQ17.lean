/- Texts of the proof, joined: G1, G2, G3. -/
import Derived.Test.YtdfbokmjipdolaaGreatDoorE5P
import Derived.Test.YtdfbokmjipdolaaGreatDoorQ9
import Derived.Test.YtdfbokmjipdolaaGreatDoorQ16
set_option linter.unusedVariables false
set_option linter.unusedSimpArgs false
/- The plain law: which texts the light parser takes as numbers; the special words. -/
namespace Go.Proofs.YtdfbokmjipdolaaGreatDoor
open Go.RowKit

def lnan (l : List Nat) : Bool := foldB l nanL
def linf (t : List Nat) : Bool := foldB t [105, 110, 102] || foldB t infinityL
/-- the light parser takes the text as a number -/
def lok (l : List Nat) : Prop := lnan l = true ∨ linf (unsign l) = true ∨ ∃ R, lread (unsign l) = some R ∧ uSc l = true ∧ (lbits R.1 R.2).2 = false
/-- the bits that it answers -/
def lb (l : List Nat) : Nat :=
  if lnan l then nanBits
  else if linf (unsign l) then sgn (rfNeg l) + infPos
  else match lread (unsign l) with
    | none => 0
    | some R => if uSc l then sgn (rfNeg l) + (lbits R.1 R.2).1 else 0

theorem foldB_iff {l m : List Nat} : foldB l m = true ↔ l.map lowc = m := by unfold foldB; rw [decide_eq_true_iff]
theorem cpl_take : ∀ (l p : List Nat), (l.map lowc).take (cpl l p) = p.take (cpl l p) ∧ cpl l p ≤ l.length ∧ cpl l p ≤ p.length
  | [], p => by rw [cpl_nil_l]; simp
  | c :: l, [] => by rw [cpl_nil_r]; simp
  | c :: l, d :: p => by
    by_cases h : lowc c = d
    · rw [cpl_yes h]
      obtain ⟨a, b, e⟩ := cpl_take l p
      refine ⟨?_, by simp only [List.length_cons]; omega, by simp only [List.length_cons]; omega⟩
      rw [List.map_cons, List.take_succ_cons, List.take_succ_cons, a, h]
    · rw [cpl_no h]; simp
theorem cpl_pre : ∀ (l p : List Nat), l.map lowc <+: p → cpl l p = l.length
  | [], p, _ => by rw [cpl_nil_l]; rfl
  | c :: l, [], h => by simp at h
  | c :: l, d :: p, h => by
    rw [List.map_cons, List.cons_prefix_cons] at h
    rw [cpl_yes h.1, cpl_pre l p h.2, List.length_cons]
theorem lowc_i {c : Nat} (h : lowc c = 105) : c = 105 ∨ c = 73 := by unfold lowc at h; split at h <;> omega
theorem lowc_n {c : Nat} (h : lowc c = 110) : c = 110 ∨ c = 78 := by unfold lowc at h; split at h <;> omega
theorem hasSign_cons (c : Nat) (r : List Nat) : hasSign (c :: r) = (decide (c = 43) || decide (c = 45)) := by
  unfold hasSign
  rw [List.head?_cons, Bool.eq_iff_iff]; simp

theorem nan_sp {l : List Nat} (h : lnan l = true) : sp l = some (true, l.length) ∧ unsign l = l := by
  unfold lnan at h
  rw [foldB_iff] at h
  have hl : l.length = 3 := by have := congrArg List.length h; simpa [nanL] using this
  cases l with
  | nil => cases hl
  | cons c r =>
    have hc : lowc c = 110 := by simp only [List.map_cons, nanL, List.cons.injEq] at h; exact h.1
    have hc2 := lowc_n hc
    have hs : hasSign (c :: r) = false := by rw [hasSign_cons]; simp; omega
    have hm := cpl_pre (c :: r) nanL (by rw [h]; exact List.prefix_refl _)
    constructor
    · rw [sp_n hs (by simp; omega) (by simpa using hc2) rfl, hm, hl, if_pos rfl]
    · rw [unsign_eq, hs]; rfl
theorem inf_cut {t : List Nat} (h : linf t = true) : spCut (cpl t infinityL) = t.length ∧ (t.length = 3 ∨ t.length = 8) ∧ ∃ c r, t = c :: r ∧ lowc c = 105 := by
  unfold linf at h
  rw [Bool.or_eq_true, foldB_iff, foldB_iff] at h
  have hp : t.map lowc <+: infinityL := by
    rcases h with h | h
    · rw [h]; exact ⟨[105, 110, 105, 116, 121], rfl⟩
    · rw [h]; exact List.prefix_refl _
  have hl : t.length = 3 ∨ t.length = 8 := by
    rcases h with h | h
    · left; have := congrArg List.length h; simpa using this
    · right; have := congrArg List.length h; simpa [infinityL] using this
  refine ⟨?_, hl, ?_⟩
  · rw [cpl_pre t _ hp]
    unfold spCut
    rw [if_neg (by omega)]
  · cases t with
    | nil => simp at hl
    | cons c r =>
      refine ⟨c, r, rfl, ?_⟩
      rcases h with h | h
      · simp only [List.map_cons, List.cons.injEq] at h; exact h.1
      · simp only [List.map_cons, infinityL, List.cons.injEq] at h; exact h.1
theorem inf_sp {l : List Nat} (h : linf (unsign l) = true) : sp l = some (false, l.length) := by
  obtain ⟨h1, h2, c, r, h3, h4⟩ := inf_cut h
  rw [unsign_eq] at h1 h2 h3
  cases hs : hasSign l with
  | true =>
    rw [hs, if_pos rfl] at h1 h2 h3
    rw [sp_sign hs rfl, h1, if_pos h2]
    have : l.length = 1 + l.tail.length := by
      cases l with
      | nil => cases hs
      | cons a b => rw [List.length_cons, List.tail_cons]; omega
    rw [← this]
  | false =>
    rw [hs, if_neg (by simp)] at h1 h2 h3
    rw [sp_i hs (by rw [h3]; simpa using lowc_i h4) rfl, h1, if_pos h2]
theorem lread_letter {c : Nat} {r : List Nat} (h : ¬ (48 ≤ c ∧ c ≤ 57)) (h46 : c ≠ 46) (h95 : c ≠ 95) : lread (c :: r) = none := by
  have hx : lhex (c :: r) = false := by
    unfold lhex
    have : c ≠ 48 := by omega
    simp [this]
  apply lread_nodigs
  unfold lF lbody
  rw [hx, if_neg (by simp), mRun_stop false c r _ (mstop_other h95 h46 (digOf_none h (by simp)))]
  rfl
theorem cut3 {M : Nat} (h : spCut M = 3 ∨ spCut M = 8) : 3 ≤ M ∧ (spCut M = 8 → M = 8) ∧ (spCut M = 3 → M < 8) := by
  unfold spCut at h ⊢
  split at h <;> rename_i hh
  · rw [if_pos hh]; omega
  · rw [if_neg hh]; omega
theorem cut_inf {t : List Nat} (h : spCut (cpl t infinityL) = 3 ∨ spCut (cpl t infinityL) = 8) : (spCut (cpl t infinityL) = t.length → linf t = true) ∧ lread t = none := by
  obtain ⟨h3, h8, h7⟩ := cut3 h
  obtain ⟨a, b, c⟩ := cpl_take t infinityL
  have hlen : infinityL.length = 8 := rfl
  constructor
  · intro he
    unfold linf
    rw [Bool.or_eq_true, foldB_iff, foldB_iff]
    rcases h with h | h
    · left
      have e3 : cpl t infinityL = 3 := by omega
      rw [e3, List.take_of_length_le (by rw [List.length_map]; omega)] at a
      exact a
    · right
      have e8 := h8 h
      rw [e8, List.take_of_length_le (by rw [List.length_map]; omega), List.take_of_length_le (by omega)] at a
      exact a
  · cases t with
    | nil => rw [cpl_nil_l] at h3; omega
    | cons x r =>
      have hx : lowc x = 105 := by
        refine Decidable.byContradiction fun hn => ?_
        rw [show infinityL = 105 :: [110, 102, 105, 110, 105, 116, 121] from rfl, cpl_no hn] at h3
        omega
      have := lowc_i hx
      exact lread_letter (by omega) (by omega) (by omega)
/-- where Go's own reader sees a special word -/
theorem sp_some {l : List Nat} {r : Bool × Nat} (h : sp l = some r) : lread (unsign l) = none ∧ (r.2 = l.length → (r.1 = true → lnan l = true) ∧ (r.1 = false → linf (unsign l) = true)) := by
  rw [unsign_eq]
  cases hs : hasSign l with
  | true =>
    rw [sp_sign hs rfl] at h
    split at h
    · rename_i hc
      injection h with h
      subst h
      obtain ⟨a, b⟩ := cut_inf hc
      refine ⟨by rw [if_pos rfl]; exact b, fun he => ⟨(fun h => by cases h), fun _ => ?_⟩⟩
      rw [if_pos rfl]
      apply a
      have : l.length = 1 + l.tail.length := by
        cases l with
        | nil => cases hs
        | cons a b => rw [List.length_cons, List.tail_cons]; omega
      simp only at he
      omega
    · cases h
  | false =>
    rw [if_neg (by simp)]
    by_cases hi : l.head? = some 105 ∨ l.head? = some 73
    · rw [sp_i hs hi rfl] at h
      split at h
      · rename_i hc
        injection h with h
        subst h
        obtain ⟨a, b⟩ := cut_inf hc
        exact ⟨b, fun he => ⟨(fun h => by cases h), fun _ => a he.symm.symm⟩⟩
      · cases h
    · by_cases hn : l.head? = some 110 ∨ l.head? = some 78
      · rw [sp_n hs hi hn rfl] at h
        split at h
        · rename_i hc
          injection h with h
          subst h
          refine ⟨?_, fun he => ⟨fun _ => ?_, (fun h => by cases h)⟩⟩
          · cases l with
            | nil => simp at hn
            | cons x r =>
              simp only [List.head?_cons, Option.some.injEq] at hn
              exact lread_letter (by omega) (by omega) (by omega)
          · unfold lnan
            rw [foldB_iff]
            have a := (cpl_take l nanL).1
            rw [hc, List.take_of_length_le (by rw [List.length_map]; simp only at he; omega)] at a
            exact a
        · cases h
      · rw [sp_else hs hi hn] at h; cases h
theorem sp_none {l : List Nat} (h : sp l = none) : lnan l = false ∧ linf (unsign l) = false := by
  constructor
  · cases hn : lnan l with
    | false => rfl
    | true => rw [(nan_sp hn).1] at h; cases h
  · cases hn : linf (unsign l) with
    | false => rfl
    | true => rw [inf_sp hn] at h; cases h
end Go.Proofs.YtdfbokmjipdolaaGreatDoor
/- The plain law: readFloat and the light read take the same texts; underscores. -/
namespace Go.Proofs.YtdfbokmjipdolaaGreatDoor
open Go.RowKit

theorem mStep_us {hex : Bool} {c : Nat} {st st' : MS} (h : mStep hex c st = some st') : st'.us = true ↔ st.us = true ∨ c = 95 := by
  unfold mStep at h
  split at h
  · injection h with h; subst h; simp [*]
  · split at h
    · split at h
      · cases h
      · injection h with h; subst h; rename_i h95 _ _; simp [h95]
    · rename_i h95 h46
      cases hd : digOf hex c with
      | none => rw [hd] at h; cases h
      | some d =>
        rw [hd] at h
        simp only [Option.map_some, Option.some.injEq] at h
        subst h
        unfold MS.digit
        split <;> simp [h95]
theorem mRun_us (hex : Bool) : ∀ (l : List Nat) (st : MS), ∃ A, l = A ++ (mRun hex l st).2 ∧ ((mRun hex l st).1.us = true ↔ st.us = true ∨ 95 ∈ A)
  | [], st => ⟨[], by rw [mRun_end]; rfl, by rw [mRun_end]; simp⟩
  | c :: r, st => by
    cases hs : mStep hex c st with
    | none => rw [mRun_stop hex c r st hs]; exact ⟨[], rfl, by simp⟩
    | some st1 =>
      rw [mRun_cons hex c r st st1 hs]
      obtain ⟨A, h1, h2⟩ := mRun_us hex r st1
      refine ⟨c :: A, by rw [List.cons_append, ← h1], ?_⟩
      rw [h2, mStep_us hs, List.mem_cons, or_assoc, @eq_comm _ c 95]
theorem eRun_u : ∀ (l : List Nat) (e : Nat) (u : Bool), ∃ A, l = A ++ (eRun l e u).2 ∧ ((eRun l e u).1.2 = true ↔ u = true ∨ 95 ∈ A)
  | [], e, u => ⟨[], rfl, by rw [eRun_nil]; simp⟩
  | c :: r, e, u => by
    by_cases h95 : c = 95
    · rw [eRun_us c r e u h95]
      obtain ⟨A, h1, h2⟩ := eRun_u r e true
      exact ⟨c :: A, by rw [List.cons_append, ← h1], by rw [h2, h95]; simp⟩
    · by_cases hd : 48 ≤ c ∧ c ≤ 57
      · rw [eRun_dig c r e u hd.1 hd.2]
        obtain ⟨A, h1, h2⟩ := eRun_u r (if e < 10000 then e * 10 + (c - 48) else e) u
        refine ⟨c :: A, by rw [List.cons_append, ← h1], ?_⟩
        rw [h2, List.mem_cons]
        constructor
        · rintro (h | h)
          · exact Or.inl h
          · exact Or.inr (Or.inr h)
        · rintro (h | h | h)
          · exact Or.inl h
          · exact absurd h.symm h95
          · exact Or.inr h
      · rw [eRun_stop c r e u h95 hd]
        exact ⟨[], rfl, by simp⟩
theorem xRead_u {r : List Nat} {e : Int} {u : Bool} {R : List Nat} (h : xRead r = some ((e, u), R)) : ∃ A, r = A ++ R ∧ (u = true ↔ 95 ∈ A) := by
  rw [xRead_eq] at h
  have key : ∀ q : List Nat, xr1 (xSg r) q = some ((e, u), R) → ∃ A, q = A ++ R ∧ (u = true ↔ 95 ∈ A) := by
    intro q hq
    cases q with
    | nil => cases hq
    | cons c t =>
      by_cases hb : c < 48 ∨ 57 < c
      · rw [xr1_bad _ c t hb] at hq; cases hq
      · rw [xr1_ok _ c t hb] at hq
        obtain ⟨hX, hR⟩ := Prod.mk.inj (Option.some.inj hq)
        obtain ⟨_, hu⟩ := Prod.mk.inj hX
        obtain ⟨A, h1, h2⟩ := eRun_u (c :: t) 0 false
        rw [hR] at h1
        rw [hu] at h2
        exact ⟨A, h1, by simpa using h2⟩
  cases r with
  | nil => exact key [] h
  | cons s t =>
    by_cases hs : s = 45 ∨ s = 43
    · have e1 : xRest (s :: t) = t := by unfold xRest; simp [hs]
      rw [e1] at h
      obtain ⟨A, h1, h2⟩ := key t h
      refine ⟨s :: A, by rw [List.cons_append, ← h1], ?_⟩
      rw [h2, List.mem_cons]
      constructor
      · exact Or.inr
      · rintro (h | h)
        · omega
        · exact h
    · have e1 : xRest (s :: t) = s :: t := by unfold xRest; simp [hs]
      rw [e1] at h
      exact key _ h
theorem lw_95 : lw 95 = 127 := by decide

/-- the mark's exponent in readFloat's words -/
def rXe (hex : Bool) (R : List Nat) : Option ((Int × Bool) × List Nat) :=
  if mkAt hex R 0 then xRead R.tail else if hex then none else some ((0, false), R)
theorem lXe_rXe (hex : Bool) (R : List Nat) : lXe hex R = match rXe hex R with
    | some ((e, _), []) => some e
    | _ => none := by
  unfold lXe rXe
  cases mkAt hex R 0
  · cases hex
    · cases R <;> simp
    · simp
  · simp only [if_true]
    cases xRead R.tail with
    | none => rfl
    | some X => obtain ⟨⟨e, u⟩, q⟩ := X; rfl
theorem rfExpo_rXe (l : List Nat) (neg hex : Bool) (F : MS × List Nat) : rfExpo l neg hex F = match rXe hex F.2 with
    | none => none
    | some ((e, u), rest) => rfEnd l neg hex F.1 (F.1.dp * four hex + e) (F.1.us || u) rest := by
  unfold rfExpo rXe mkAt
  rw [List.drop_zero]
  by_cases hm : F.2.head?.map lw = some (mark hex)
  · rw [if_pos hm, if_pos (by rw [beq_iff_eq]; exact hm)]
    cases xRead F.2.tail with
    | none => rfl
    | some X => obtain ⟨⟨e, u⟩, q⟩ := X; rfl
  · have hm2 : (F.2.head?.map lw == some (mark hex)) = false := by rw [beq_eq_false_iff_ne]; exact hm
    rw [if_neg hm, hm2]
    cases hex
    · simp
    · simp
theorem rXe_us {hex : Bool} {R : List Nat} {e : Int} {u : Bool} {rest : List Nat} (h : rXe hex R = some ((e, u), rest)) : ∃ A, R = A ++ rest ∧ (u = true ↔ 95 ∈ A) := by
  unfold rXe at h
  split at h
  · rename_i hm
    obtain ⟨A, h1, h2⟩ := xRead_u h
    cases R with
    | nil => simp [mkAt] at hm
    | cons c t =>
      rw [List.tail_cons] at h1
      refine ⟨c :: A, by rw [List.cons_append, ← h1], ?_⟩
      have hc : c ≠ 95 := by
        rintro rfl
        unfold mkAt at hm
        simp only [List.drop_zero, List.head?_cons, Option.map_some, beq_iff_eq, Option.some.injEq, lw_95] at hm
        unfold mark at hm
        split at hm <;> omega
      rw [h2, List.mem_cons]
      constructor
      · exact Or.inr
      · rintro (h | h)
        · exact absurd h.symm hc
        · exact h
  · split at h
    · cases h
    · injection h with h
      injection h with h1 h2
      injection h1 with h3 h4
      subst h4 h2
      exact ⟨[], rfl, by simp⟩
theorem rfEnd_some {l : List Nat} {neg hex : Bool} {st : MS} {dp : Int} {us : Bool} {rest : List Nat} (h : (us && !uOk (l.take (l.length - rest.length))) = false) :
    rfEnd l neg hex st dp us rest = some ⟨num (bse hex) (st.D.take (mx hex)), if num (bse hex) (st.D.take (mx hex)) ≠ 0 then dp - (min (mx hex) st.D.length * four hex : Nat) else 0, neg, trOf hex st.D, hex, l.length - rest.length⟩ := by
  unfold rfEnd
  rw [h]
  rfl
theorem rfEnd_i {l : List Nat} {neg hex : Bool} {st : MS} {dp : Int} {us : Bool} {rest : List Nat} {r : RF} (h : rfEnd l neg hex st dp us rest = some r) : r.i = l.length - rest.length := by
  unfold rfEnd at h
  split at h
  · cases h
  · injection h with h; subst h; rfl

/-- the two marks of hexadecimal -/
theorem hex_split (l : List Nat) : (rfHex l = lhex (unsign l) ∧ rfFin l = lF (unsign l) ∧ ∃ P, l = P ++ lbody (unsign l) ∧ ¬ 95 ∈ P) ∨ (lread (unsign l) = none ∧ ∀ r, rf l = some r → r.i ≠ l.length) := by
  have hu : unsign l = l.drop (rfI0 l) := by
    rw [unsign_eq]; unfold rfI0
    split
    · cases l <;> rfl
    · rfl
  have hg : ∀ i, (l.drop (rfI0 l))[i]? = l[rfI0 l + i]? := fun i => List.getElem?_drop
  have hP : ∀ x ∈ l.take (rfI0 l), x = 43 ∨ x = 45 := by
    unfold rfI0
    cases hs : hasSign l with
    | false => simp
    | true =>
      rw [if_pos rfl]
      cases l with
      | nil => simp
      | cons c t =>
        rw [hasSign_cons] at hs
        intro x hx
        have : x = c := by simpa using hx
        subst this
        simpa using hs
  have hI : rfI0 l ≤ 1 := by unfold rfI0; split <;> omega
  by_cases h2 : rfI0 l + 2 < l.length
  · left
    have e1 : rfHex l = lhex (unsign l) := by
      rw [hu]
      unfold rfHex rfHexAt lhex
      rw [hg 0, hg 1, List.length_drop, show decide (rfI0 l + 2 < l.length) = true by simpa using h2, show decide (2 ≤ l.length - rfI0 l) = true by simp; omega]
      rfl
    have e2 : l.drop (rfI1 l) = lbody (unsign l) := by
      unfold rfI1 lbody
      rw [← e1, hu]
      cases rfHex l
      · rfl
      · simp only [if_true]; rw [List.drop_drop]
    refine ⟨e1, ?_, l.take (rfI1 l), ?_, ?_⟩
    · unfold rfFin lF; rw [e1, e2]
    · rw [← e2, List.take_append_drop]
    · intro h95
      unfold rfI1 at h95
      cases hx : rfHex l with
      | false =>
        rw [hx, if_neg (by simp)] at h95
        rcases hP _ h95 with h | h <;> cases h
      | true =>
        rw [hx, if_pos rfl] at h95
        have hx2 := hx
        unfold rfHex rfHexAt at hx2
        simp only [Bool.and_eq_true, beq_iff_eq, decide_eq_true_eq] at hx2
        obtain ⟨⟨_, ha⟩, hb⟩ := hx2
        rw [List.take_add, List.mem_append] at h95
        rcases h95 with h | h
        · rcases hP _ h with h | h <;> cases h
        · have hl : l.drop (rfI0 l) = l[rfI0 l]?.getD 0 :: l[rfI0 l + 1]?.getD 0 :: l.drop (rfI0 l + 2) := by
            rw [List.drop_eq_getElem_cons (by omega), List.drop_eq_getElem_cons (by omega), List.getElem?_eq_getElem (by omega), List.getElem?_eq_getElem (by omega)]
            rfl
          rw [hl, ha] at h
          simp only [List.take_succ_cons, List.take_zero, List.mem_cons, List.not_mem_nil, or_false] at h
          rcases h with h | h
          · omega
          · rw [← h] at hb
            rw [lw_95] at hb
            cases hb
  · have hx : rfHex l = false := by unfold rfHex rfHexAt; rw [show decide (rfI0 l + 2 < l.length) = false by simpa using h2]; rfl
    cases hlx : lhex (unsign l) with
    | false =>
      left
      refine ⟨by rw [hx], ?_, l.take (rfI0 l), ?_, fun h => by rcases hP _ h with h | h <;> cases h⟩
      · unfold rfFin lF lbody rfI1
        rw [hx, hlx, if_neg (by simp), if_neg (by simp), hu]
      · unfold lbody; rw [hlx, if_neg (by simp), hu, List.take_append_drop]
    | true =>
      right
      have hlx2 := hlx
      unfold lhex at hlx2
      simp only [Bool.and_eq_true, beq_iff_eq, decide_eq_true_eq] at hlx2
      obtain ⟨⟨hlen, ha⟩, hb⟩ := hlx2
      have hlen2 : (unsign l).length = 2 := by rw [hu, List.length_drop] at hlen ⊢; omega
      constructor
      · apply lread_nodigs
        unfold lF lbody
        rw [hlx, if_pos rfl, List.drop_eq_nil_of_le (by omega), mRun_end]
        rfl
      · intro r hr
        have hlne : l ≠ [] := by rintro rfl; simp [unsign] at hlen2
        unfold rf at hr
        rw [if_neg hlne] at hr
        -- the decimal run stops at the second byte
        obtain ⟨a, b, hab⟩ : ∃ a b, unsign l = [a, b] := by
          match hq : unsign l, hlen2 with
          | [a, b], _ => exact ⟨a, b, rfl⟩
        rw [hab] at ha hb
        simp only [List.getElem?_cons_zero, Option.getD_some, List.getElem?_cons_succ] at ha hb
        have hFin : rfFin l = (MS.digit .start 0, [b]) := by
          unfold rfFin rfI1
          rw [hx, if_neg (by simp), ← hu, hab, ha]
          have hstep : mStep false 48 .start = some (MS.digit .start 0) := by simp [mStep, digOf]
          rw [mRun_cons false 48 [b] _ _ hstep]
          apply mRun_stop
          apply mstop_other
          · rintro rfl; rw [lw_95] at hb; cases hb
          · rintro rfl; exact absurd hb (by decide)
          · apply digOf_none
            · intro hd
              have hb2 : ∀ c : Nat, c < 58 → lw c ≠ 120 := by decide
              exact hb2 b (by omega) hb
            · simp
        rw [hFin] at hr
        split at hr
        · rw [rfExpo_rXe] at hr
          have hrx : rXe (rfHex l) [b] = some ((0, false), [b]) := by
            unfold rXe mkAt
            rw [hx]
            simp only [List.drop_zero, List.head?_cons, Option.map_some, hb, mark]
            simp
          rw [hrx] at hr
          have := rfEnd_i hr
          rw [this]
          have : 0 < l.length := List.length_pos_iff.2 hlne
          simp
          omega
        · cases hr
/-- readFloat takes the whole text as a number where the light read does, and the underscores stand well -/
theorem rf_read (l : List Nat) : (∀ e, (lF (unsign l)).1.digs = true → lXe (lhex (unsign l)) (lF (unsign l)).2 = some e → uSc l = true →
      ∃ r, rf l = some r ∧ r.i = l.length ∧ rfHex l = lhex (unsign l) ∧ rfFin l = lF (unsign l) ∧ r.exp = (if num (bse (rfHex l)) ((rfFin l).1.D.take (mx (rfHex l))) ≠ 0 then (rfFin l).1.dp * four (rfHex l) + e - (min (mx (rfHex l)) (rfFin l).1.D.length * four (rfHex l) : Nat) else 0)) ∧
    ((lread (unsign l) = none ∨ uSc l = false) → ∀ r, rf l = some r → r.i ≠ l.length) := by
  rcases hex_split l with ⟨hx, hF, P, hP, h95⟩ | ⟨h1, h2⟩
  · have hlF : lF (unsign l) = mRun (lhex (unsign l)) (lbody (unsign l)) .start := rfl
    obtain ⟨A, hA, hAu⟩ := mRun_us (lhex (unsign l)) (lbody (unsign l)) .start
    rw [← hlF] at hA hAu
    have hus0 : (MS.start).us = false := rfl
    have hnil : l = [] → (lF (unsign l)).1.digs = false := by rintro rfl; rfl
    have us95 : ∀ e u rest, rXe (lhex (unsign l)) (lF (unsign l)).2 = some ((e, u), rest) → rest = [] → (((lF (unsign l)).1.us || u) = true ↔ 95 ∈ l) := by
      intro e u rest hr hre
      obtain ⟨A2, hA2, hu2⟩ := rXe_us hr
      rw [hre, List.append_nil] at hA2
      rw [Bool.or_eq_true, hAu, hu2, hus0, hP, hA, hA2]
      simp [h95]
    constructor
    · intro e hd he hu
      have hlne : l ≠ [] := fun h => by rw [hnil h] at hd; cases hd
      rw [lXe_rXe] at he
      cases hr : rXe (lhex (unsign l)) (lF (unsign l)).2 with
      | none => rw [hr] at he; cases he
      | some X =>
        obtain ⟨⟨e', u⟩, rest⟩ := X
        rw [hr] at he
        cases rest with
        | cons c t => cases he
        | nil =>
          injection he with he
          subst he
          have h5 := us95 _ _ _ hr rfl
          have hok : (((lF (unsign l)).1.us || u) && !uOk (l.take (l.length - ([] : List Nat).length))) = false := by
            rw [List.length_nil, Nat.sub_zero, List.take_length]
            cases hb : ((lF (unsign l)).1.us || u) with
            | false => rfl
            | true =>
              have := h5.1 hb
              unfold uSc at hu
              rw [if_pos this] at hu
              rw [hu]; rfl
          have hrf : rf l = some ⟨num (bse (lhex (unsign l))) ((lF (unsign l)).1.D.take (mx (lhex (unsign l)))), if num (bse (lhex (unsign l))) ((lF (unsign l)).1.D.take (mx (lhex (unsign l)))) ≠ 0 then (lF (unsign l)).1.dp * four (lhex (unsign l)) + e' - (min (mx (lhex (unsign l))) (lF (unsign l)).1.D.length * four (lhex (unsign l)) : Nat) else 0, rfNeg l, trOf (lhex (unsign l)) (lF (unsign l)).1.D, lhex (unsign l), l.length - ([] : List Nat).length⟩ := by
            unfold rf
            rw [if_neg hlne, hF, if_pos hd, rfExpo_rXe, hx, hr]
            exact rfEnd_some hok
          exact ⟨_, hrf, by simp, hx, hF, by rw [hF, hx]⟩
    · rintro h r hr hi
      unfold rf at hr
      split at hr
      · cases hr
      · rename_i hlne
        have hpos : 0 < l.length := List.length_pos_iff.2 hlne
        split at hr
        · rename_i hd
          rw [rfExpo_rXe, hF, hx] at hr
          cases hq : rXe (lhex (unsign l)) (lF (unsign l)).2 with
          | none => rw [hq] at hr; cases hr
          | some X =>
            obtain ⟨⟨e', u⟩, rest⟩ := X
            rw [hq] at hr
            have hi2 := rfEnd_i hr
            cases rest with
            | cons c t => rw [hi2] at hi; simp at hi; omega
            | nil =>
              have h5 := us95 _ _ _ hq rfl
              rcases h with h | h
              · unfold lread at h
                rw [← hF, hd, if_pos rfl, lXe_rXe, hF, hq] at h
                cases h
              · unfold uSc at h
                split at h
                · rename_i hin
                  have hb := h5.2 hin
                  unfold rfEnd at hr
                  dsimp only at hr
                  rw [hb, List.length_nil, Nat.sub_zero, List.take_length, h] at hr
                  cases hr
                · cases h
        · cases hr
  · constructor
    · intro e hd he hu
      exfalso
      unfold lread at h1
      rw [hd, if_pos rfl, he] at h1
      cases h1
    · intro _
      exact h2
end Go.Proofs.YtdfbokmjipdolaaGreatDoor
/- The plain law: the light parser and Go's own take the same texts as numbers. -/
namespace Go.Proofs.YtdfbokmjipdolaaGreatDoor
open Go.RowKit

/-- lbits_law for far points -/
theorem lbits_wide (s : Nat) (D : List Nat) (dp : Int) (hs : 100000000 ≤ s) (hD : LOk D) (hlen : D.length ≤ 20000) (hdp : -300000 ≤ dp) (hdp' : dp ≤ 300000) : LB s D dp (lbits D dp) := by
  by_cases hw : -20000 ≤ dp ∧ dp ≤ 20000
  · exact lbits_law s D dp hs (Or.inl hD) hlen hw.1 hw.2
  have hp : 0 < 10 ^ s := Nat.pow_pos (by decide)
  unfold lbits
  by_cases h0 : D = [] ∨ dp < -330
  · rw [if_pos h0]
    refine ⟨by simp [infPos], by simp, by simp [infPos], ?_⟩
    simp only [Bool.false_eq_true, false_iff, Nat.not_le]
    have h1 : 1 * 10 ^ s ≤ thr * 10 ^ s := Nat.mul_le_mul_right _ thr_1
    have hn : dp < -330 := by
      rcases h0 with h | h
      · exact absurd h hD.ne
      · exact h
    have hh := (V_head hD s dp (by omega) (s + dp - 1).toNat (by omega)).2
    have h9 := (num_head hD).2.2.2.1
    have e : 10 ^ (s + dp - 1).toNat * 10 ≤ 10 ^ s := by rw [← Nat.pow_succ]; exact Nat.pow_le_pow_right (by decide) (by omega)
    have : (D.getD 0 0 + 1) * 10 ^ (s + dp - 1).toNat ≤ 10 * 10 ^ (s + dp - 1).toNat := Nat.mul_le_mul_right _ (by omega)
    omega
  · rw [if_neg h0]
    have hdm : -330 ≤ dp := by
      refine Decidable.byContradiction fun h => h0 (Or.inr (by omega))
    have h1 : 310 < dp := by omega
    rw [if_pos h1]
    refine ⟨Nat.le_refl _, fun _ => rfl, by simp, ?_⟩
    simp only [true_iff]
    have hh := (V_head hD s dp (by omega) (s + dp - 1).toNat (by omega)).1
    have h9 := (num_head hD).2.2.1
    have e : 10 ^ (s + 310) ≤ 10 ^ (s + dp - 1).toNat := Nat.pow_le_pow_right (by decide) (by omega)
    have h3 : 1 * 10 ^ (s + dp - 1).toNat ≤ D.getD 0 0 * 10 ^ (s + dp - 1).toNat := Nat.mul_le_mul_right _ h9
    rw [p10_s] at e
    have h4 : thr * 10 ^ s ≤ p10 310 * 10 ^ s := Nat.mul_le_mul_right _ thr_310
    rw [Nat.mul_comm (p10 310)] at h4
    omega
theorem lbits_nil (x : Int) : lbits [] x = (0, false) := by unfold lbits; rw [if_pos (Or.inl rfl)]
theorem over_dec {D : List Nat} {x : Int} (hd : ∀ x ∈ D, x < 10) (hl : D.head? ≠ some 0) (hne : D ≠ []) (hlen : D.length ≤ 400) (hx : -200000 ≤ x) (hx2 : x ≤ 200000) : ((lbits (ltrim D) x).2 = true ↔ decBig D x) ∧ (lbits (ltrim D) x).1 ≤ infPos := by
  have hok := ltrim_ok hd hl hne
  have hlt := ltrim_len D
  have L : ∀ s, 100000000 ≤ s → LB s (ltrim D) x (lbits (ltrim D) x) := fun s hs => lbits_wide s _ _ hs hok (by omega) (by omega) (by omega)
  refine ⟨⟨fun h s hs => ?_, fun h => ?_⟩, (L _ (Nat.le_refl _)).le⟩
  · have := (L s hs).big.1 h
    rw [V_trim s D x (by omega)] at this
    exact this
  · obtain ⟨s, hs⟩ : ∃ s : Nat, 100000000 ≤ s := ⟨_, Nat.le_refl _⟩
    apply (L s hs).big.2
    rw [V_trim s D x (by omega)]
    exact h s hs
theorem dd_V (s m : Nat) (hm : m < 10 ^ 20) : V s (ltrim (dd m)) ((dd m).length : Int) = m * 10 ^ s := by
  rw [V_trim s _ _ (by omega)]
  unfold V
  rw [show num 10 (dd m) = m from ddF_num 19 m hm]
  congr 2
  omega
theorem lDn_len : ∀ (f : Nat) (D : List Nat) (dp : Int) (k : Nat), (lDn f D dp k).1.length ≤ D.length + 2 * k
  | 0, D, dp, k => by rw [lDn]; simp only; omega
  | f + 1, D, dp, k => by
    rw [lDn]
    split
    · have h1 := lDn_len f (halfD 59 D) (halfP 59 D dp) (k - 59)
      have h2 := ltrim_len (halfO 59 D)
      have h3 := halfO_len (D := D) (k := 59)
      have h4 : (halfD 59 D).length = (ltrim (halfO 59 D)).length := rfl
      omega
    · split
      · have h2 := ltrim_len (halfO k D)
        have h3 := halfO_len (D := D) (k := k)
        have h4 : (halfD k D).length = (ltrim (halfO k D)).length := rfl
        simp only
        omega
      · simp only; omega
theorem thr_1100 : thr ≤ p2 1100 := by decide +kernel
attribute [local irreducible] p2 p10
theorem pw2_ge {a b : Nat} (h : a ≤ b) : 2 ^ a ≤ 2 ^ b := Nat.pow_le_pow_right (by decide) h
theorem over_hex {m : Nat} {x : Int} (hm : m < 18446744073709551616) (hx2 : x ≤ 300000) : ((lbits (lhexD m x).1 (lhexD m x).2).2 = true ↔ bigX m x) ∧ (lbits (lhexD m x).1 (lhexD m x).2).1 ≤ infPos := by
  have h64 := thr_64
  unfold lhexD bigX
  by_cases h0 : m = 0 ∨ x < -1300
  · rw [if_pos h0, lbits_nil]
    refine ⟨?_, by simp⟩
    simp only [Bool.false_eq_true, false_iff]
    rintro ⟨a, b⟩
    rcases h0 with h | h
    · rw [h, Nat.zero_mul] at b
      omega
    · omega
  · rw [if_neg h0]
    have hm0 : 0 < m := by omega
    have hm20 : m < 10 ^ 20 := by omega
    have hlen := ddF_len 19 m
    have hlen2 : (dd m).length ≤ 20 := hlen.1
    have hok : LOk (ltrim (dd m)) := ltrim_ok (ddF_dig 19 m) (ddF_lead 19 m hm20 hm0) (fun h => by have h2 := hlen.2; have h3 : (dd m).length = (ddF 19 m).length := rfl; rw [h] at h3; simp at h3; omega)
    have hlt := ltrim_len (dd m)
    obtain ⟨s, hs, hs2⟩ : ∃ s : Nat, 100000000 ≤ s ∧ s ≤ 100000000 := ⟨_, Nat.le_refl _, Nat.le_refl _⟩
    have hp : 0 < 10 ^ s := Nat.pow_pos (by decide)
    have hV := dd_V s m hm20
    by_cases h1 : x < 0
    · rw [if_pos h1]
      have D1 := lDn_ok s ((-x).toNat + 1) (ltrim (dd m)) (dd m).length (-x).toNat hok (by omega) (by omega)
      have hle := lDn_len ((-x).toNat + 1) (ltrim (dd m)) ((dd m).length : Int) (-x).toNat
      obtain ⟨a, b, c, d, e⟩ := D1
      generalize lDn ((-x).toNat + 1) (ltrim (dd m)) (dd m).length (-x).toNat = R at *
      have L := lbits_wide s R.1 R.2 hs a (by omega) (by omega) (by omega)
      refine ⟨?_, L.le⟩
      rw [L.big]
      constructor
      · intro h
        exfalso
        rw [hV] at b
        have h3 : 1 ≤ 2 ^ (-x).toNat := Nat.one_le_two_pow
        have h4 : V s R.1 R.2 * 1 ≤ V s R.1 R.2 * 2 ^ (-x).toNat := Nat.mul_le_mul_left _ h3
        have h5 : m * 10 ^ s < thr * 10 ^ s := Nat.mul_lt_mul_of_pos_right (by omega) hp
        omega
      · rintro ⟨h, _⟩; omega
    · rw [if_neg h1]
      obtain ⟨k, hk⟩ : ∃ k, k = (min x 1100).toNat := ⟨_, rfl⟩
      rw [← hk]
      obtain ⟨a, b, c, d, e⟩ := lUp_ok s (k + 1) (ltrim (dd m)) (dd m).length k hok (by omega) (by omega)
      generalize lUp (k + 1) (ltrim (dd m)) (dd m).length k = R at *
      have L := lbits_wide s R.1 R.2 hs a (by omega) (by omega) (by omega)
      refine ⟨?_, L.le⟩
      rw [L.big, b, hV, Nat.mul_right_comm]
      constructor
      · intro h
        have h2 := Nat.le_of_mul_le_mul_right h hp
        exact ⟨by omega, Nat.le_trans h2 (Nat.mul_le_mul_left _ (pw2_ge (by omega)))⟩
      · rintro ⟨_, h⟩
        apply Nat.mul_le_mul_right
        by_cases hx : x ≤ 1100
        · rw [show k = x.toNat by omega]; exact h
        · have e1 : k = 1100 := by omega
          have e2 : 2 ^ k = 2 ^ 0 * p2 k := by have := p2_s 0 k; rwa [Nat.zero_add] at this
          rw [e2, e1, Nat.pow_zero, Nat.one_mul]
          exact Nat.le_trans thr_1100 (Nat.le_mul_of_pos_left _ hm0)

theorem four_t : four true = 4 := rfl
theorem mx_t : mx true = 16 := rfl
theorem mx_f : mx false = 19 := rfl
theorem four_f : four false = 1 := rfl
theorem xe_le {hex : Bool} {R : List Nat} {e : Int} (h : lXe hex R = some e) : -99999 ≤ e ∧ e ≤ 99999 := by
  unfold lXe at h
  split at h
  · cases hx : xRead R.tail with
    | none => rw [hx] at h; cases h
    | some X =>
      obtain ⟨⟨a, b⟩, q⟩ := X
      rw [hx] at h
      cases q with
      | cons c t => cases h
      | nil =>
        injection h with h
        subst h
        exact xRead_le _ _ _ _ hx
  · split at h
    · cases h
    · split at h
      · injection h with h; subst h; omega
      · cases h
theorem unsign_len (l : List Nat) : (unsign l).length ≤ l.length := by
  unfold unsign
  split
  · rw [List.length_tail]; omega
  · exact Nat.le_refl _
/-- the light read's digits and point -/
theorem lF_facts (t : List Nat) (hl : t.length ≤ 400) : MSOk (lhex t) (lF t).1 ∧ (lF t).1.D.length ≤ 400 ∧ -400 ≤ (lF t).1.dp ∧ (lF t).1.dp ≤ 400 := by
  have hb : (lbody t).length ≤ t.length := by unfold lbody; split <;> simp
  have h1 := mRun_len (lhex t) (lbody t) .start
  have h2 := mRun_dp (lhex t) (lbody t) .start
  have e0 : (MS.start).D.length = 0 := rfl
  have e1 : (MS.start).dp = 0 := rfl
  have h3 : mRun (lhex t) (lbody t) .start = lF t := rfl
  rw [h3] at h1 h2
  refine ⟨mRun_ok _ _ _ (start_ok _), by omega, by omega, by omega⟩
theorem stk_lt (m : Nat) (tr : Bool) (h : m < 18446744073709551616) : stk m tr < 18446744073709551616 := by
  unfold stk
  split
  · exact Nat.or_lt_two_pow (n := 64) h (by decide)
  · exact h
theorem stk_zero {m : Nat} {tr : Bool} (h : m = 0) (ht : tr = false) : stk m tr = 0 := by subst ht; exact h
theorem num16_lt {D : List Nat} (hd : ∀ x ∈ D, x < 16) : num 16 (D.take 16) < 18446744073709551616 := by
  have h1 := num_lt 16 (by decide) (D.take 16) (fun x hx => hd x (List.mem_of_mem_take hx))
  have h2 : (D.take 16).length ≤ 16 := by rw [List.length_take]; omega
  exact Nat.lt_of_lt_of_le h1 (Nat.le_trans (Nat.pow_le_pow_right (by decide) h2) (by decide))
theorem num16_zero {D : List Nat} (hl : D.head? ≠ some 0) (h : num 16 (D.take 16) = 0) : D = [] := by
  cases D with
  | nil => rfl
  | cons x r =>
    exfalso
    have hx : x ≠ 0 := by simpa using hl
    rw [List.take_succ_cons, num_cons] at h
    have : 0 < x * 16 ^ (r.take 15).length := Nat.mul_pos (by omega) (Nat.pow_pos (by decide))
    omega
/-- both parsers: too large -/
theorem over_both (l : List Nat) (hl : l.length ≤ 400) (R : List Nat × Int) (r : RF) (e : Int) (hR : lread (unsign l) = some R) (he : lXe (lhex (unsign l)) (lF (unsign l)).2 = some e) (hd : (lF (unsign l)).1.digs = true)
    (hr : rf l = some r) (hx : rfHex l = lhex (unsign l)) (hF : rfFin l = lF (unsign l)) (hexp : r.exp = (if num (bse (rfHex l)) ((rfFin l).1.D.take (mx (rfHex l))) ≠ 0 then (rfFin l).1.dp * four (rfHex l) + e - (min (mx (rfHex l)) (rfFin l).1.D.length * four (rfHex l) : Nat) else 0)) :
    ((lbits R.1 R.2).2 = true ↔ ATBig l r) ∧ (lbits R.1 R.2).1 ≤ infPos := by
  obtain ⟨_, _, f1, _, f2, f3⟩ := rf_facts l r hr hl
  have hul := unsign_len l
  obtain ⟨m1, m2, m3, m4⟩ := lF_facts (unsign l) (by omega)
  have hxe := xe_le he
  unfold lread at hR
  rw [hd, if_pos rfl, he] at hR
  injection hR with hR
  subst hR
  unfold ATBig
  rw [f1, f2, f3, hexp]
  rw [hF, hx]
  obtain ⟨D, hD⟩ : ∃ D, D = (lF (unsign l)).1.D := ⟨_, rfl⟩
  rw [← hD] at m2 ⊢
  cases hh : lhex (unsign l) with
  | false =>
    rw [hh] at m1
    have hd10 : ∀ x ∈ D, x < 10 := by rw [hD]; exact fun x hx => m1.dig x hx
    have hlead : D.head? ≠ some 0 := by rw [hD]; exact m1.lead
    have ef : ∀ {α : Type} (a b : α), (if (false : Bool) = true then a else b) = b := fun a b => if_neg (by decide)
    have ef2 : ∀ (a b : Prop), (if (false : Bool) = true then a else b) = b := fun a b => if_neg (by decide)
    rw [ef, ef2, mx_f, four_f]
    by_cases hn : D = []
    · rw [if_pos hn, lbits_nil, hn]
      exact ⟨by simp only [Bool.false_eq_true, false_iff]; exact decBig_nil, by simp⟩
    · rw [if_neg hn]
      have hne : num (bse false) (D.take 19) ≠ 0 := fun h => hn ((take_ne hd10 hlead).1 h)
      rw [if_pos hne]
      have e1 : (lF (unsign l)).1.dp * ((1 : Nat) : Int) + e - ((min 19 D.length * 1 : Nat) : Int) + ((min 19 D.length : Nat) : Int) = (lF (unsign l)).1.dp + e := by omega
      rw [e1]
      exact over_dec hd10 hlead hn m2 (by omega) (by omega)
  | true =>
    rw [hh] at m1
    have hd16 : ∀ x ∈ D, x < 16 := by rw [hD]; exact fun x hx => m1.dig x hx
    have hlead : D.head? ≠ some 0 := by rw [hD]; exact m1.lead
    have ef : ∀ {α : Type} (a b : α), (if (true : Bool) = true then a else b) = a := fun a b => if_pos rfl
    have ef2 : ∀ (a b : Prop), (if (true : Bool) = true then a else b) = a := fun a b => if_pos rfl
    rw [ef, ef2, mx_t, four_t, bse16]
    have hm := num16_lt hd16
    by_cases hz : num 16 (D.take 16) = 0
    · have hn := num16_zero hlead hz
      have ht : trOf true D = false := by rw [hn]; rfl
      have hs := stk_zero hz ht
      rw [hs, if_neg (by simp [hz])]
      have h0 : ∀ x, lhexD 0 x = ([], 0) := fun x => if_pos (Or.inl rfl)
      rw [h0, lbits_nil]
      refine ⟨?_, by simp⟩
      simp only [Bool.false_eq_true, false_iff]
      rintro ⟨_, b⟩
      rw [Nat.zero_mul] at b
      have := thr_64
      omega
    · rw [if_pos hz]
      have e1 : (lF (unsign l)).1.dp * ((4 : Nat) : Int) + e - ((min 16 D.length * 4 : Nat) : Int) = ((lF (unsign l)).1.dp - ((min 16 D.length : Nat) : Int)) * 4 + e := by omega
      rw [e1]
      exact over_hex (stk_lt _ _ hm) (by omega)
theorem lread_parts {t : List Nat} {R : List Nat × Int} (h : lread t = some R) : (lF t).1.digs = true ∧ ∃ e, lXe (lhex t) (lF t).2 = some e := by
  unfold lread at h
  split at h
  · rename_i hd
    refine ⟨hd, ?_⟩
    cases he : lXe (lhex t) (lF t).2 with
    | none => rw [he] at h; cases h
    | some e => exact ⟨e, rfl⟩
  · cases h
/-- the two parsers take the same texts -/
theorem lok_std (l : List Nat) (hl : l.length ≤ 400) : lok l ↔ stdOk l := by
  unfold lok stdOk
  cases hs : sp l with
  | some r =>
    obtain ⟨h1, h2⟩ := sp_some hs
    simp only
    constructor
    · rintro (h | h | ⟨R, h, _⟩)
      · rw [(nan_sp h).1] at hs; injection hs with hs; rw [← hs]
      · rw [inf_sp h] at hs; injection hs with hs; rw [← hs]
      · rw [h1] at h; cases h
    · intro h
      obtain ⟨a, b⟩ := h2 h
      cases hr : r.1 with
      | true => exact Or.inl (a hr)
      | false => exact Or.inr (Or.inl (b hr))
  | none =>
    obtain ⟨h1, h2⟩ := sp_none hs
    rw [h1, h2]
    simp only [Bool.false_eq_true, false_or]
    obtain ⟨g1, g2⟩ := rf_read l
    constructor
    · rintro ⟨R, hR, hu, hov⟩
      obtain ⟨hd, e, he⟩ := lread_parts hR
      obtain ⟨r, a1, a2, a3, a4, a5⟩ := g1 e hd he hu
      rw [a1]
      refine ⟨a2, fun hb => ?_⟩
      rw [← (over_both l hl R r e hR he hd a1 a3 a4 a5).1, hov] at hb
      cases hb
    · intro h
      cases hr : rf l with
      | none => rw [hr] at h; exact h.elim
      | some r =>
        rw [hr] at h
        obtain ⟨hi, hb⟩ := h
        cases hR : lread (unsign l) with
        | none => exact absurd hi (g2 (Or.inl hR) r hr)
        | some R =>
          have hu : uSc l = true := by
            cases hu : uSc l with
            | true => rfl
            | false => exact absurd hi (g2 (Or.inr hu) r hr)
          obtain ⟨hd, e, he⟩ := lread_parts hR
          obtain ⟨r2, a1, a2, a3, a4, a5⟩ := g1 e hd he hu
          rw [hr] at a1
          injection a1 with a1
          subst a1
          refine ⟨R, rfl, hu, ?_⟩
          cases hov : (lbits R.1 R.2).2 with
          | false => rfl
          | true => exact absurd ((over_both l hl R r e hR he hd hr a3 a4 a5).1.1 hov) hb
theorem lbits_le (t : List Nat) (hl : t.length ≤ 400) (R : List Nat × Int) (hR : lread t = some R) : (lbits R.1 R.2).1 ≤ infPos := by
  obtain ⟨hd, e, he⟩ := lread_parts hR
  have hxe := xe_le he
  obtain ⟨m1, m2, m3, m4⟩ := lF_facts t hl
  unfold lread at hR
  rw [hd, if_pos rfl, he] at hR
  injection hR with hR
  subst hR
  cases hh : lhex t with
  | false =>
    rw [hh] at m1
    rw [if_neg (by simp)]
    by_cases hn : (lF t).1.D = []
    · rw [if_pos hn, lbits_nil]; simp
    · rw [if_neg hn]
      exact (over_dec (fun x hx => m1.dig x hx) m1.lead hn m2 (by omega) (by omega)).2
  | true =>
    rw [hh] at m1
    rw [if_pos rfl]
    exact (over_hex (stk_lt _ _ (num16_lt (fun x hx => m1.dig x hx))) (by omega)).2
theorem sgn_nan2 (neg : Bool) (b : Nat) (h : b ≤ infPos) : nan64 (sgn neg + b) = false := by
  unfold nan64
  have hi : infPos = 9218868437227405312 := rfl
  have : (sgn neg + b) % 9223372036854775808 = b := by cases neg <;> simp [sgn] <;> omega
  rw [this]
  exact decide_eq_false (by omega)
/-- the light parser's NaN -/
theorem lb_nan (l : List Nat) (hl : l.length ≤ 400) : nan64 (lb l) = true ↔ stdNan l := by
  unfold stdNan
  cases hn : lnan l with
  | true =>
    have e : lb l = nanBits := by unfold lb; rw [hn, if_pos rfl]
    rw [e, (nan_sp hn).1]
    exact ⟨fun _ => rfl, fun _ => (nan_inf true).2.2⟩
  | false =>
    have h2 : sp l ≠ some (true, l.length) := fun h => by
      have := (sp_some h).2 rfl
      rw [this.1 rfl] at hn
      cases hn
    refine ⟨fun h => ?_, fun h => absurd h h2⟩
    exfalso
    have h3 : nan64 (lb l) = false := by
      unfold lb
      rw [hn, if_neg (by simp)]
      split
      · exact sgn_nan2 _ _ (Nat.le_refl _)
      · cases hR : lread (unsign l) with
        | none => exact (by decide : nan64 0 = false)
        | some R =>
          simp only
          split
          · exact sgn_nan2 _ _ (lbits_le _ (by have := unsign_len l; omega) R hR)
          · exact (by decide : nan64 0 = false)
    rw [h] at h3
    cases h3
end Go.Proofs.YtdfbokmjipdolaaGreatDoor
