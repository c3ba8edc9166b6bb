/- Plain words for the light parser's read. -/
import Derived.Test.YtdfbokmjipdolaaGreatDoorE4
import Derived.Test.YtdfbokmjipdolaaGreatDoorC23
import Derived.Outline
set_option linter.unusedVariables false
set_option linter.unusedSimpArgs false
namespace Go.Proofs.YtdfbokmjipdolaaGreatDoor
open Go.RowKit

def lhex (t : List Nat) : Bool := decide (2 ≤ t.length) && t[0]?.getD 0 == 48 && lw (t[1]?.getD 0) == 120
def lbody (t : List Nat) : List Nat := if lhex t then t.drop 2 else t
def lF (t : List Nat) : MS × List Nat := mRun (lhex t) (lbody t) .start
/-- the exponent that stands behind the digits; none: the text goes wrong -/
def lXe (hex : Bool) (R : List Nat) : Option Int :=
  if mkAt hex R 0 then
    match xRead R.tail with
    | some ((e, _), []) => some e
    | _ => none
  else if hex then none else if R = [] then some 0 else none
def lhexD (m : Nat) (x : Int) : List Nat × Int :=
  if m = 0 ∨ x < -1300 then ([], 0)
  else if x < 0 then lDn ((-x).toNat + 1) (ltrim (dd m)) (dd m).length (-x).toNat
  else lUp ((min x 1100).toNat + 1) (ltrim (dd m)) (dd m).length (min x 1100).toNat
/-- what read makes of a text -/
def lread (t : List Nat) : Option (List Nat × Int) :=
  if (lF t).1.digs then
    match lXe (lhex t) (lF t).2 with
    | none => none
    | some e => some (if lhex t then lhexD (stk (num 16 ((lF t).1.D.take 16)) (trOf true (lF t).1.D)) (((lF t).1.dp - (min 16 (lF t).1.D.length : Nat)) * 4 + e)
        else if (lF t).1.D = [] then ([], 0) else (ltrim (lF t).1.D, (lF t).1.dp + e))
  else none
def RDPost (t : List Nat) (w : World) (e : Ending) (w' : World) : Prop := Below w.heap.size w w' ∧
  match lread t with
  | none => e = .returned (.tuple #[.pointer none, .bool false])
  | some R => ∃ b, w.heap.size ≤ b ∧ e = .returned (.tuple #[.pointer (some ⟨b, 0, none⟩), .bool true]) ∧ ((R.1 = [] ∧ LE w' b 0) ∨ (LOk R.1 ∧ ∃ B g cap, w.heap.size ≤ B ∧ LD w' B b g cap R.1 R.2))
theorem RDPost.no {t : List Nat} {w w' : World} {e : Ending} (h : lread t = none) (hB : Below w.heap.size w w') (he : e = .returned (.tuple #[.pointer none, .bool false])) : RDPost t w e w' := by
  refine ⟨hB, ?_⟩
  rw [h]; exact he
theorem RDPost.nil {t : List Nat} {w w' : World} {e : Ending} {b : Nat} (h : lread t = some ([], 0)) (hB : Below w.heap.size w w') (hb : w.heap.size ≤ b) (he : e = .returned (.tuple #[.pointer (some ⟨b, 0, none⟩), .bool true])) (hl : LE w' b 0) : RDPost t w e w' := by
  refine ⟨hB, ?_⟩
  rw [h]; exact ⟨b, hb, he, Or.inl ⟨rfl, hl⟩⟩
theorem RDPost.yes {t : List Nat} {w w' : World} {e : Ending} {B b g cap : Nat} {D : List Nat} {dp : Int} (h : lread t = some (D, dp)) (hB : Below w.heap.size w w') (hb : w.heap.size ≤ b) (he : e = .returned (.tuple #[.pointer (some ⟨b, 0, none⟩), .bool true])) (hok : LOk D) (hBB : w.heap.size ≤ B) (hl : LD w' B b g cap D dp) : RDPost t w e w' := by
  refine ⟨hB, ?_⟩
  rw [h]; exact ⟨b, hb, he, Or.inr ⟨hok, B, g, cap, hBB, hl⟩⟩
theorem lread_nodigs {t : List Nat} (h : (lF t).1.digs = false) : lread t = none := by unfold lread; rw [h]; rfl
theorem lread_nox {t : List Nat} (h : lXe (lhex t) (lF t).2 = none) : lread t = none := by
  unfold lread
  rw [h]
  split <;> rfl
theorem lhex_b {t : ByteArray} {x : Bool} (h : x = lhex (bsN t)) {y : Bool} (hy : y = lhex (bsN t)) : Value.bool y = Value.bool x := by rw [h, hy]
theorem lhex_long {t : ByteArray} (h : 2 ≤ t.size) : lhex (bsN t) = (decide (t[0].toNat = 48) && decide (lw t[1].toNat = 120)) := by
  unfold lhex
  rw [bsN_len, bsN_get (show 0 < t.size by omega), bsN_get (show 1 < t.size by omega), show decide (2 ≤ t.size) = true by simpa using h, Bool.true_and]
  rfl
theorem lhex_short {t : ByteArray} (h : t.size < 2) : lhex (bsN t) = false := by
  unfold lhex
  rw [bsN_len, show decide (2 ≤ t.size) = false by simpa using h]; rfl
theorem mkAt_zero (hex : Bool) (L : List Nat) (k : Nat) : mkAt hex (L.drop k) 0 = mkAt hex L k := by unfold mkAt; rw [List.drop_zero]
theorem digit_zero (dp : Int) (dot digs us : Bool) : MS.digit ⟨[], dp, dot, digs, us⟩ 0 = ⟨[], if dot then dp - 1 else dp, dot, true, us⟩ := by simp [MS.digit]
theorem digit_more (D : List Nat) (dp : Int) (dot digs us : Bool) (d : Nat) (h : ¬ (D = [] ∧ d = 0)) : MS.digit ⟨D, dp, dot, digs, us⟩ d = ⟨D ++ [d], if dot then dp else dp + 1, dot, true, us⟩ := by simp [MS.digit, h]
end Go.Proofs.YtdfbokmjipdolaaGreatDoor
