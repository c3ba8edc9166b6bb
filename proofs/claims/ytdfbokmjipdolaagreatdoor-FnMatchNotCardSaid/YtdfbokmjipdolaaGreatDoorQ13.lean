/- Texts of the proof, joined: C18, C19. -/
import Derived.Test.YtdfbokmjipdolaaGreatDoorQ5
import Derived.Test.YtdfbokmjipdolaaGreatDoorQ4
set_option linter.unusedVariables false
set_option linter.unusedSimpArgs false
/- Plain words for decimal.set: its loop's state beside the run over the bytes. -/
namespace Go.Proofs.YtdfbokmjipdolaaGreatDoor
open Go.RowKit

/-- set's loop: k bytes read, the digits so far in d -/
structure SSf (L : List Nat) (FIN : MS × List Nat) (k nd : Nat) (dpm : Int) (dot digs : Bool) (d : Array Nat) (st : MS) : Prop where
  size : d.size = 800
  len : st.D.length = nd
  cells : ∀ i (h : i < st.D.length), d.getD i 0 = 48 + st.D[i]
  edot : dot = st.dot
  edigs : digs = st.digs
  edp : dot = true → dpm = st.dp
  edn : dot = false → st.dp = nd
  ndk : nd ≤ k
  dp0 : -(k : Int) ≤ dpm
  dp1 : dpm ≤ k
  dig : ∀ x ∈ st.D, x < 10
  lead : st.D.head? ≠ some 0
  run : mRun false (L.drop k) st = FIN
def SS (L : List Nat) (FIN : MS × List Nat) (k nd : Nat) (dpm : Int) (dot digs : Bool) (d : Array Nat) : Prop := ∃ st, SSf L FIN k nd dpm dot digs d st

variable {L : List Nat} {FIN : MS × List Nat} {k nd : Nat} {dpm : Int} {dot digs : Bool} {d : Array Nat}
theorem SS.start (L : List Nat) (i : Nat) (d : Array Nat) (hs : d.size = 800) : SS L (mRun false (L.drop i) .start) i 0 0 false false d :=
  ⟨.start, hs, rfl, (fun i h => by cases h), rfl, rfl, (fun h => by cases h), fun _ => rfl, by omega, by omega, by omega, (fun x h => by cases h), (fun h => by cases h), rfl⟩
theorem SS.under (h : SS L FIN k nd dpm dot digs d) (c : Nat) (hd : L.drop k = c :: L.drop (k + 1)) (hc : c = 95) : SS L FIN (k + 1) nd dpm dot digs d := by
  obtain ⟨st, h⟩ := h
  exact ⟨{ st with us := true }, h.size, h.len, h.cells, h.edot, h.edigs, h.edp, h.edn, by have := h.ndk; omega, by have := h.dp0; omega, by have := h.dp1; omega, h.dig, h.lead, run_step hd rfl h.run (by simp [mStep, hc])⟩
theorem SS.point (h : SS L FIN k nd dpm false digs d) (c : Nat) (hd : L.drop k = c :: L.drop (k + 1)) (hc : c = 46) : SS L FIN (k + 1) nd nd true digs d := by
  obtain ⟨st, h⟩ := h
  have hdot := h.edot
  exact ⟨{ st with dot := true }, h.size, h.len, h.cells, rfl, h.edigs, fun _ => (h.edn rfl).symm, (fun h => by cases h), by have := h.ndk; omega, by omega, by have := h.ndk; omega, h.dig, h.lead,
    run_step hd rfl h.run (by simp [mStep, hc, ← hdot])⟩
theorem SS.zero (h : SS L FIN k nd dpm dot digs d) (c : Nat) (hd : L.drop k = c :: L.drop (k + 1)) (hc : c = 48) (h0 : nd = 0) : SS L FIN (k + 1) nd (dpm - 1) dot true d := by
  obtain ⟨st, h⟩ := h
  have hD : st.D = [] := List.length_eq_zero_iff.1 (by rw [h.len, h0])
  have hs : mStep false c st = some (st.digit 0) := by subst hc; simp [mStep, digOf]
  have e : st.digit 0 = { st with digs := true, dp := if st.dot then st.dp - 1 else st.dp } := by simp [MS.digit, hD]
  refine ⟨st.digit 0, ?_⟩
  have hrun := run_step hd rfl h.run hs
  rw [e] at hrun ⊢
  refine ⟨h.size, h.len, h.cells, h.edot, rfl, fun hd => ?_, fun hd => ?_, by have := h.ndk; omega, by have := h.dp0; omega, by have := h.dp1; omega, h.dig, h.lead, hrun⟩
  · have := h.edp hd; have hdot := h.edot; rw [hd] at hdot; simp [← hdot, this]
  · have := h.edn hd; have hdot := h.edot; rw [hd] at hdot; simp [← hdot, this]
theorem SS.digit (h : SS L FIN k nd dpm dot digs d) (c : Nat) (hd : L.drop k = c :: L.drop (k + 1)) (h0 : 48 ≤ c) (h1 : c ≤ 57) (hn : ¬ (nd = 0 ∧ c = 48)) (h8 : nd < 800) : SS L FIN (k + 1) (nd + 1) dpm dot true (d.setIfInBounds nd c) := by
  obtain ⟨st, h⟩ := h
  have hs : mStep false c st = some (st.digit (c - 48)) := by
    simp [mStep, show ¬ c = 95 by omega, show ¬ c = 46 by omega, digOf, h0, h1]
  have hne : ¬ (st.D = [] ∧ c - 48 = 0) := fun hh => hn ⟨by rw [← h.len, hh.1]; rfl, by omega⟩
  have e : st.digit (c - 48) = { st with D := st.D ++ [c - 48], digs := true, dp := if st.dot then st.dp else st.dp + 1 } := by simp [MS.digit, hne]
  have hrun := run_step hd rfl h.run hs
  rw [e] at hrun
  refine ⟨⟨st.D ++ [c - 48], if st.dot = true then st.dp else st.dp + 1, st.dot, true, st.us⟩, by simp [h.size], by simp [h.len], fun i hi => ?_, h.edot, rfl, fun hd => ?_, fun hd => ?_, by have := h.ndk; omega, by have := h.dp0; omega, by have := h.dp1; omega, fun x hx => ?_, ?_, hrun⟩
  · have hlen := h.len
    simp only [List.length_append, List.length_cons, List.length_nil] at hi
    by_cases hi2 : i = nd
    · subst hi2
      rw [Array.getD_eq_getD_getElem?, Array.getElem?_setIfInBounds_self_of_lt (by rw [h.size]; exact h8), Option.getD_some]
      simp [hlen]
      omega
    · have hi3 : i < st.D.length := by omega
      rw [Array.getD_eq_getD_getElem?, Array.getElem?_setIfInBounds_ne (Ne.symm hi2), ← Array.getD_eq_getD_getElem?, h.cells i hi3]
      simp only [List.getElem_append_left hi3]
  · have := h.edp hd; have hdot := h.edot; rw [hd] at hdot; simp [← hdot, this]
  · have := h.edn hd; have hdot := h.edot; rw [hd] at hdot; simp [← hdot, this]
  · rcases List.mem_append.1 hx with hx | hx
    · exact h.dig x hx
    · rw [List.mem_singleton.1 hx]; omega
  · cases hD : st.D with
    | nil =>
      simp only [List.nil_append, List.head?_cons, ne_eq, Option.some.injEq]
      intro hz
      exact hne ⟨hD, hz⟩
    | cons x r =>
      have := h.lead
      rw [hD] at this
      simpa using this
/-- the run has come to its end at this state -/
structure SDone (L : List Nat) (FIN : MS × List Nat) (k nd : Nat) (dpm : Int) (dot digs : Bool) (d : Array Nat) : Prop where
  ss : SSf L FIN k nd dpm dot digs d FIN.1
  rest : FIN.2 = L.drop k
theorem SS.stop (h : SS L FIN k nd dpm dot digs d) (c : Nat) (hd : L.drop k = c :: L.drop (k + 1)) (hs : ∀ st : MS, st.dot = dot → mStep false c st = none) : SDone L FIN k nd dpm dot digs d := by
  obtain ⟨st, h⟩ := h
  have e := h.run
  rw [hd, mRun_stop false c _ st (hs st h.edot.symm), ← hd] at e
  have : FIN.1 = st := by rw [← e]
  exact ⟨by rw [this]; exact h, by rw [← e]⟩
theorem SS.done (h : SS L FIN k nd dpm dot digs d) (hd : L.drop k = []) : SDone L FIN k nd dpm dot digs d := by
  obtain ⟨st, h⟩ := h
  have e := h.run
  rw [hd, mRun_end] at e
  have : FIN.1 = st := by rw [← e]
  exact ⟨by rw [this]; exact h, by rw [← e, hd]⟩
theorem dv_num (d : Array Nat) (D : List Nat) (h : ∀ i (h : i < D.length), d.getD i 0 = 48 + D[i]) (j : Nat) (hj : j ≤ D.length) : dv d j = num 10 (D.take j) := by
  induction j with
  | zero => rfl
  | succ j ih =>
    rw [dv, ih (by omega), h j (by omega), List.take_succ_eq_append_getElem (by omega), num_snoc]
    omega
theorem SDone.num (h : SDone L FIN k nd dpm dot digs d) : dv d nd = num 10 FIN.1.D := by
  have := dv_num d FIN.1.D h.ss.cells FIN.1.D.length (Nat.le_refl _)
  rw [List.take_length, h.ss.len] at this
  exact this
end Go.Proofs.YtdfbokmjipdolaaGreatDoor
/- decimal.set of Go's own strconv. -/
namespace Go.Proofs.YtdfbokmjipdolaaGreatDoor
open Go.RowKit

def setF (l : List Nat) : MS × List Nat := mRun false (l.drop (rfI0 l)) .start
def setX (l : List Nat) : Option Int :=
  if (setF l).1.digs then
    if mkAt false (setF l).2 0 then
      match xRead (setF l).2.tail with
      | some ((e, _), []) => some ((setF l).1.dp + e)
      | _ => none
    else if (setF l).2 = [] then some (setF l).1.dp else none
  else none
/-- the decimal holds the run's digits -/
structure SOk (D : List Nat) (d : Array Nat) (n : Nat) : Prop where
  val : dv d n = num 10 D
  len : n = D.length
  dig : ∀ i < n, 48 ≤ d.getD i 0 ∧ d.getD i 0 ≤ 57
  lead : 0 < n → d.getD 0 0 ≠ 48
def SetPost (w : World) (b : Nat) (t : TypeId) (l : List Nat) (e : Ending) (w' : World) : Prop :=
  ∃ (ok : Bool) (w1 : World) (d' : Array Nat) (n' : Nat) (dp' : Int) (ng' tr' : Bool), e = .returned (.bool ok) ∧ Dr w w1 ∧ w' = wD w1 b t d' n' dp' ng' tr' ∧ d'.size = 800 ∧ n' ≤ 400 ∧
    match setX l with
    | some x => ok = true ∧ dp' = x ∧ SOk (setF l).1.D d' n'
    | none => ok = false

theorem SDone.ok {L : List Nat} {FIN : MS × List Nat} {k nd : Nat} {dpm : Int} {dot digs : Bool} {d : Array Nat} (h : SDone L FIN k nd dpm dot digs d) : SOk FIN.1.D d nd := by
  refine ⟨h.num, h.ss.len.symm, fun i hi => ?_, fun h0 => ?_⟩
  · rw [← h.ss.len] at hi
    rw [h.ss.cells i hi]
    have := h.ss.dig _ (List.getElem_mem hi)
    omega
  · have hl := h.ss.lead
    have hlen := h.ss.len
    cases hD : FIN.1.D with
    | nil => rw [hD] at hlen; simp at hlen; omega
    | cons x r =>
      have := h.ss.cells 0 (by rw [hD]; simp)
      simp only [hD, List.getElem_cons_zero] at this
      rw [hD] at hl
      simp at hl
      omega
end Go.Proofs.YtdfbokmjipdolaaGreatDoor
