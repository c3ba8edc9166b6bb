/- Texts of the proof, joined: B5, B6, B9. -/
import Derived.Test.YtdfbokmjipdolaaGreatDoorA3
set_option linter.unusedVariables false
set_option linter.unusedSimpArgs false
/- Plain words for readFloat's answer. -/
namespace Go.Proofs.YtdfbokmjipdolaaGreatDoor
open Go.RowKit

structure RF where
  mant : Nat
  exp : Int
  neg : Bool
  tr : Bool
  hex : Bool
  i : Nat

def rfI0 (l : List Nat) : Nat := if hasSign l then 1 else 0
def rfNeg (l : List Nat) : Bool := l.head? == some 45
def rfHexAt (l : List Nat) (i : Nat) : Bool := decide (i + 2 < l.length) && l[i]?.getD 0 == 48 && lw (l[i + 1]?.getD 0) == 120
def rfHex (l : List Nat) : Bool := rfHexAt l (rfI0 l)
def rfI1 (l : List Nat) : Nat := if rfHex l then rfI0 l + 2 else rfI0 l
def mark (hex : Bool) : Nat := if hex then 112 else 101
def four (hex : Bool) : Nat := if hex then 4 else 1
def rfEnd (l : List Nat) (neg hex : Bool) (st : MS) (dp : Int) (us : Bool) (rest : List Nat) : Option RF :=
  if us && !uOk (l.take (l.length - rest.length)) then none
  else some ⟨num (bse hex) (st.D.take (mx hex)), if num (bse hex) (st.D.take (mx hex)) ≠ 0 then dp - (min (mx hex) st.D.length * four hex : Nat) else 0, neg, trOf hex st.D, hex, l.length - rest.length⟩
def rfExpo (l : List Nat) (neg hex : Bool) (F : MS × List Nat) : Option RF :=
  if F.2.head?.map lw = some (mark hex) then
    match xRead F.2.tail with
    | none => none
    | some ((e, u), rest) => rfEnd l neg hex F.1 (F.1.dp * four hex + e) (F.1.us || u) rest
  else if hex then none else rfEnd l neg hex F.1 (F.1.dp * four hex) F.1.us F.2
def rfFin (l : List Nat) : MS × List Nat := mRun (rfHex l) (l.drop (rfI1 l)) .start
def rf (l : List Nat) : Option RF :=
  if l = [] then none else if (rfFin l).1.digs then rfExpo l (rfNeg l) (rfHex l) (rfFin l) else none

/-- readFloat's answer: seven values, the last: whether the text is a number's -/
def RFPost (l : List Nat) (e : Ending) : Prop :=
  match rf l with
  | some r => e = .returned (.tuple #[.int .u64 r.mant, .int .i64 r.exp, .bool r.neg, .bool r.tr, .bool r.hex, .int .i64 r.i, .bool true])
  | none => ∃ (m x i : Int) (ng tr hx : Bool), e = .returned (.tuple #[.int .u64 m, .int .i64 x, .bool ng, .bool tr, .bool hx, .int .i64 i, .bool false])

theorem rfHex_of {s : ByteArray} {i : Nat} (h : i + 2 < s.size) : rfHexAt (bsN s) i = (decide ((s[i]'(by omega)).toNat = 48) && decide (lw (s[i + 1]'(by omega)).toNat = 120)) := by
  unfold rfHexAt
  rw [bsN_len, bsN_get (show i < s.size by omega), bsN_get (show i + 1 < s.size by omega), show decide (i + 2 < s.size) = true by simpa using h, Bool.true_and]
  rfl
theorem rfHex_no {s : ByteArray} {i : Nat} (h : ¬ i + 2 < s.size) : rfHexAt (bsN s) i = false := by
  unfold rfHexAt
  rw [bsN_len, show decide (i + 2 < s.size) = false by simpa using h]; rfl
end Go.Proofs.YtdfbokmjipdolaaGreatDoor
/- Words and small facts for readFloat's walk. -/
namespace Go.Proofs.YtdfbokmjipdolaaGreatDoor
open Go.RowKit

theorem sg_plus {s : ByteArray} (h0 : 0 < s.size) (q : (((s[0]'h0).toNat : Int) == 43) = true) : rfNeg (bsN s) = false ∧ rfI0 (bsN s) = 1 := by
  have q' : s[0].toNat = 43 := by have := beq_iff_eq.1 q; omega
  unfold rfNeg rfI0 hasSign; rw [bsN_cons h0]; simp [q']
theorem sg_minus {s : ByteArray} (h0 : 0 < s.size) (q : (((s[0]'h0).toNat : Int) == 45) = true) : rfNeg (bsN s) = true ∧ rfI0 (bsN s) = 1 := by
  have q' : s[0].toNat = 45 := by have := beq_iff_eq.1 q; omega
  unfold rfNeg rfI0 hasSign; rw [bsN_cons h0]; simp [q']
theorem sg_none {s : ByteArray} (h0 : 0 < s.size) (q : (((s[0]'h0).toNat : Int) == 43) = false) (q2 : (((s[0]'h0).toNat : Int) == 45) = false) : rfNeg (bsN s) = false ∧ rfI0 (bsN s) = 0 := by
  have q' : ¬ s[0].toNat = 43 := by have := beq_eq_false_iff_ne.1 q; omega
  have q2' : ¬ s[0].toNat = 45 := by have := beq_eq_false_iff_ne.1 q2; omega
  unfold rfNeg rfI0 hasSign; rw [bsN_cons h0]; simp [q', q2']
theorem vb {x y : Bool} (h : x = y) : Value.bool x = Value.bool y := by rw [h]
theorem vi {k : IntKind} {x y : Int} (h : x = y) : Value.int k x = Value.int k y := by rw [h]
theorem hx_yes {s : ByteArray} {i : Nat} (h : (i : Int) + 2 < s.size) (q : ((s[i]'(by omega)).toNat : Int) = 48) : ((lw (s[i + 1]'(by omega)).toNat : Int) == 120) = rfHexAt (bsN s) i := by
  rw [rfHex_of (show i + 2 < s.size by omega), Bool.eq_iff_iff]; simp [show s[i].toNat = 48 by omega]; omega
theorem hx_no {s : ByteArray} {i : Nat} (h : (i : Int) + 2 < s.size) (q : ¬ ((s[i]'(by omega)).toNat : Int) = 48) : false = rfHexAt (bsN s) i := by
  rw [rfHex_of (show i + 2 < s.size by omega)]; simp [show ¬ s[i].toNat = 48 by omega]
theorem hx_short {s : ByteArray} {i : Nat} (h : (s.size : Int) ≤ (i : Int) + 2) : false = rfHexAt (bsN s) i := by rw [rfHex_no (by omega)]

def LRel (hex : Bool) (L : List Nat) (FIN : MS × List Nat) (sz g : Nat) (s2 s5 s7 s9 s13 s14 s15 s16 s17 : Value) (w1 wc : World) : Prop :=
  ∃ (k nd ndM m : Nat) (dpv : Int) (dot digs us tr : Bool), k ≤ sz ∧ g = sz - k ∧ s2 = .int .u64 m ∧ s5 = .bool tr ∧ s7 = .int .i64 k ∧ s9 = .bool us ∧ s13 = .bool dot ∧ s14 = .bool digs ∧ s15 = .int .i64 nd ∧ s16 = .int .i64 ndM ∧ s17 = .int .i64 dpv ∧ RS hex L FIN k nd ndM m dpv dot digs us tr ∧ w1 = wc
def LEnd (hex : Bool) (L : List Nat) (FIN : MS × List Nat) (sz : Nat) (s2 s5 s7 s9 s13 s14 s15 s16 s17 : Value) (w1 wc : World) : Prop :=
  ∃ (k nd ndM m : Nat) (dpv : Int) (dot digs us tr : Bool), k ≤ sz ∧ s2 = .int .u64 m ∧ s5 = .bool tr ∧ s7 = .int .i64 k ∧ s9 = .bool us ∧ s13 = .bool dot ∧ s14 = .bool digs ∧ s15 = .int .i64 nd ∧ s16 = .int .i64 ndM ∧ s17 = .int .i64 dpv ∧ RDone hex L FIN k nd ndM m dpv dot digs us tr ∧ w1 = wc


theorem bse10 : bse false = 10 := rfl
theorem bse16 : bse true = 16 := rfl
theorem digOf_dec {hex : Bool} {c : Nat} (h0 : 48 ≤ c) (h1 : c ≤ 57) : digOf hex c = some (c - 48) := by unfold digOf; rw [if_pos ⟨h0, h1⟩]
theorem digOf_hex {c : Nat} (h : ¬ (48 ≤ c ∧ c ≤ 57)) (h0 : 97 ≤ lw c) (h1 : lw c ≤ 102) : digOf true c = some (lw c - 87) := by unfold digOf; rw [if_neg h, if_pos ⟨rfl, h0, h1⟩]
theorem digOf_none {hex : Bool} {c : Nat} (h : ¬ (48 ≤ c ∧ c ≤ 57)) (h2 : ¬ (hex = true ∧ 97 ≤ lw c ∧ lw c ≤ 102)) : digOf hex c = none := by unfold digOf; rw [if_neg h, if_neg h2]
theorem mstop_dot {hex : Bool} {c : Nat} {st : MS} (hc : c = 46) (h : st.dot = true) : mStep hex c st = none := by subst hc; simp [mStep, h]
theorem mstop_other {hex : Bool} {c : Nat} {st : MS} (h95 : ¬ c = 95) (h46 : ¬ c = 46) (h : digOf hex c = none) : mStep hex c st = none := by simp [mStep, h95, h46, h]
/-- facts of a byte's tests, in numbers -/
theorem b_eq {c : Nat} {n : Int} (h : ((c : Int) == n) = true) : (c : Int) = n := beq_iff_eq.1 h
theorem b_ne {c : Nat} {n : Int} (h : ((c : Int) == n) = false) : ¬ (c : Int) = n := beq_eq_false_iff_ne.1 h

theorem RFPost.yes {l : List Nat} {r : RF} {e : Ending} (h : rf l = some r) (he : e = .returned (.tuple #[.int .u64 r.mant, .int .i64 r.exp, .bool r.neg, .bool r.tr, .bool r.hex, .int .i64 r.i, .bool true])) : RFPost l e := by
  unfold RFPost; rw [h]; exact he
theorem RFPost.no {l : List Nat} {m x i : Int} {ng tr hx : Bool} {e : Ending} (h : rf l = none) (he : e = .returned (.tuple #[.int .u64 m, .int .i64 x, .bool ng, .bool tr, .bool hx, .int .i64 i, .bool false])) : RFPost l e := by
  unfold RFPost; rw [h]; exact ⟨m, x, i, ng, tr, hx, he⟩
theorem rf_nodigs {hex : Bool} {L : List Nat} {FIN : MS × List Nat} {k nd ndM m : Nat} {dpv : Int} {dot us tr : Bool} (hF : FIN = rfFin L) (h : RDone hex L FIN k nd ndM m dpv dot false us tr) : rf L = none := by
  unfold rf
  rw [← hF, ← h.rs.edigs]
  simp
theorem rf_digs {hex : Bool} {L : List Nat} {FIN : MS × List Nat} {k nd ndM m : Nat} {dpv : Int} {dot us tr : Bool} (hF : FIN = rfFin L) (h : RDone hex L FIN k nd ndM m dpv dot true us tr) (hne : L ≠ []) : rf L = rfExpo L (rfNeg L) (rfHex L) FIN := by
  unfold rf
  rw [← hF, ← h.rs.edigs, if_neg hne, if_pos rfl]
theorem dp_dot {hex : Bool} {L : List Nat} {FIN : MS × List Nat} {k nd ndM m : Nat} {dpv : Int} {digs us tr : Bool} (h : RDone hex L FIN k nd ndM m dpv true digs us tr) : dpv = FIN.1.dp := h.rs.edp rfl
theorem dp_nodot {hex : Bool} {L : List Nat} {FIN : MS × List Nat} {k nd ndM m : Nat} {dpv : Int} {digs us tr : Bool} (h : RDone hex L FIN k nd ndM m dpv false digs us tr) : (nd : Int) = FIN.1.dp := (h.rs.edn rfl).symm

def xSg (r : List Nat) : Int := if r.head? = some 45 then -1 else 1
def xRest (r : List Nat) : List Nat := if r.head? = some 45 ∨ r.head? = some 43 then r.tail else r
def xr1 (sg : Int) (r1 : List Nat) : Option ((Int × Bool) × List Nat) :=
  match r1 with
  | [] => none
  | c :: _ => if c < 48 ∨ 57 < c then none else some ((((eRun r1 0 false).1.1 : Int) * sg, (eRun r1 0 false).1.2), (eRun r1 0 false).2)
theorem xRead_eq (r : List Nat) : xRead r = xr1 (xSg r) (xRest r) := rfl
theorem xSg_or (r : List Nat) : xSg r = 1 ∨ xSg r = -1 := by unfold xSg; split <;> simp
theorem xr1_nil (sg : Int) : xr1 sg [] = none := rfl
theorem xr1_bad (sg : Int) (c : Nat) (r : List Nat) (h : c < 48 ∨ 57 < c) : xr1 sg (c :: r) = none := by unfold xr1; simp only [if_pos h]
theorem xr1_ok (sg : Int) (c : Nat) (r : List Nat) (h : ¬ (c < 48 ∨ 57 < c)) : xr1 sg (c :: r) = some ((((eRun (c :: r) 0 false).1.1 : Int) * sg, (eRun (c :: r) 0 false).1.2), (eRun (c :: r) 0 false).2) := by unfold xr1; simp only [if_neg h]
theorem eRun_nil (e : Nat) (u : Bool) : eRun [] e u = ((e, u), []) := rfl
theorem eRun_us (c : Nat) (r : List Nat) (e : Nat) (u : Bool) (h : c = 95) : eRun (c :: r) e u = eRun r e true := by simp [eRun, h]
theorem eRun_dig (c : Nat) (r : List Nat) (e : Nat) (u : Bool) (h0 : 48 ≤ c) (h1 : c ≤ 57) : eRun (c :: r) e u = eRun r (if e < 10000 then e * 10 + (c - 48) else e) u := by
  rw [eRun, if_neg (by omega), if_pos ⟨h0, h1⟩]
theorem eRun_stop (c : Nat) (r : List Nat) (e : Nat) (u : Bool) (h : ¬ c = 95) (h2 : ¬ (48 ≤ c ∧ c ≤ 57)) : eRun (c :: r) e u = ((e, u), c :: r) := by rw [eRun, if_neg h, if_neg h2]

/-- the mark of an exponent stands at k -/
def mkAt (hex : Bool) (L : List Nat) (k : Nat) : Bool := (L.drop k).head?.map lw == some (mark hex)
theorem mkAt_end {hex : Bool} {s : ByteArray} {k : Nat} (h : (s.size : Int) ≤ k) : mkAt hex (bsN s) k = false := by unfold mkAt; rw [bsN_drop_end s k (by omega)]; rfl
theorem mkAt_in {hex : Bool} {s : ByteArray} {k : Nat} (h : k < s.size) : mkAt hex (bsN s) k = ((lw s[k].toNat : Int) == (mark hex : Nat)) := by
  unfold mkAt; rw [bsN_drop s k h, Bool.eq_iff_iff]; simp; omega
theorem rfExpo_no {L : List Nat} {neg hex : Bool} {F : MS × List Nat} {k : Nat} (h : F.2 = L.drop k) (hm : mkAt hex L k = false) : rfExpo L neg hex F = if hex then none else rfEnd L neg hex F.1 (F.1.dp * four hex) F.1.us F.2 := by
  unfold rfExpo
  rw [if_neg]
  rw [h]; unfold mkAt at hm; simpa using hm
theorem rfExpo_mark {L : List Nat} {neg hex : Bool} {F : MS × List Nat} {k : Nat} (h : F.2 = L.drop k) (hm : mkAt hex L k = true) : rfExpo L neg hex F = match xr1 (xSg (L.drop (k + 1))) (xRest (L.drop (k + 1))) with
    | none => none
    | some ((e, u), rest) => rfEnd L neg hex F.1 (F.1.dp * four hex + e) (F.1.us || u) rest := by
  unfold rfExpo
  rw [if_pos (by rw [h]; unfold mkAt at hm; simpa using hm), h, xRead_eq, List.tail_drop] <;> rfl
theorem rfEnd_at {L : List Nat} {neg hex : Bool} {st : MS} {dp : Int} {us : Bool} {i : Nat} (h : i ≤ L.length) : rfEnd L neg hex st dp us (L.drop i) = if us && !uOk (L.take i) then none
  else some ⟨num (bse hex) (st.D.take (mx hex)), if num (bse hex) (st.D.take (mx hex)) ≠ 0 then dp - (min (mx hex) st.D.length * four hex : Nat) else 0, neg, trOf hex st.D, hex, i⟩ := by
  unfold rfEnd
  rw [List.length_drop, show L.length - (L.length - i) = i by omega]

/-- no digit stands at the front -/
def badFront (r : List Nat) : Bool := match r with
  | [] => true
  | c :: _ => decide (c < 48 ∨ 57 < c)
theorem xr1_badF (sg : Int) (r : List Nat) (h : badFront r = true) : xr1 sg r = none := by
  cases r with
  | nil => rfl
  | cons c r => exact xr1_bad _ _ _ (of_decide_eq_true h)
theorem xr1_okF (sg : Int) (r : List Nat) (h : badFront r = false) : xr1 sg r = some ((((eRun r 0 false).1.1 : Int) * sg, (eRun r 0 false).1.2), (eRun r 0 false).2) := by
  cases r with
  | nil => cases h
  | cons c r => exact xr1_ok _ _ _ (of_decide_eq_false h)
theorem badF_end {s : ByteArray} {k : Nat} (h : s.size ≤ k) : badFront ((bsN s).drop k) = true := by rw [bsN_drop_end s k h]; rfl
theorem badF_in {s : ByteArray} {k : Nat} (h : k < s.size) : badFront ((bsN s).drop k) = (decide ((s[k].toNat : Int) < 48) || decide (57 < (s[k].toNat : Int))) := by
  rw [bsN_drop s k h, Bool.eq_iff_iff]; simp [badFront]; omega
end Go.Proofs.YtdfbokmjipdolaaGreatDoor
/- What the mark of hexadecimal says about the bytes. -/
namespace Go.Proofs.YtdfbokmjipdolaaGreatDoor
open Go.RowKit

theorem hx_facts {s : ByteArray} {i : Nat} (h : rfHexAt (bsN s) i = true) : ∃ (h1 : i + 2 < s.size), (s[i]'(by omega)).toNat = 48 ∧ lw (s[i + 1]'(by omega)).toNat = 120 := by
  by_cases h1 : i + 2 < s.size
  · rw [rfHex_of h1] at h
    simp at h
    exact ⟨h1, h⟩
  · rw [rfHex_no h1] at h; cases h
end Go.Proofs.YtdfbokmjipdolaaGreatDoor
