/- Plain words for readFloat's first loop: its state beside the run, and what one byte does to it. -/
import Derived.Test.YtdfbokmjipdolaaGreatDoorQ1
set_option linter.unusedVariables false
set_option linter.unusedSimpArgs false
namespace Go.Proofs.YtdfbokmjipdolaaGreatDoor
open Go.RowKit

def mx (hex : Bool) : Nat := if hex then 16 else 19
def bse (hex : Bool) : Nat := if hex then 16 else 10
def trOf (hex : Bool) (D : List Nat) : Bool := (D.drop (mx hex)).any (· != 0)

structure RSf (hex : Bool) (L : List Nat) (FIN : MS × List Nat) (k nd ndM m : Nat) (dpv : Int) (dot digs us tr : Bool) (st : MS) : Prop where
  len : st.D.length = nd
  eM : ndM = min (mx hex) nd
  em : m = num (bse hex) (st.D.take (mx hex))
  edot : dot = st.dot
  edigs : digs = st.digs
  eus : us = st.us
  etr : tr = trOf hex st.D
  edp : dot = true → dpv = st.dp
  edn : dot = false → st.dp = nd
  ndk : nd ≤ k
  dp0 : -(k : Int) ≤ dpv
  dp1 : dpv ≤ k
  dig : ∀ d ∈ st.D, d < bse hex
  run : mRun hex (L.drop k) st = FIN
def RS (hex : Bool) (L : List Nat) (FIN : MS × List Nat) (k nd ndM m : Nat) (dpv : Int) (dot digs us tr : Bool) : Prop := ∃ st, RSf hex L FIN k nd ndM m dpv dot digs us tr st

variable {hex : Bool} {L : List Nat} {FIN : MS × List Nat} {k nd ndM m : Nat} {dpv : Int} {dot digs us tr : Bool}

theorem RS.start (hex : Bool) (L : List Nat) (i : Nat) : RS hex L (mRun hex (L.drop i) .start) i 0 0 0 0 false false false false :=
  ⟨.start, by refine ⟨rfl, ?_, ?_, rfl, rfl, rfl, ?_, (fun h => by cases h), fun _ => rfl, by omega, by omega, by omega, (fun d hd => by cases hd), rfl⟩ <;> cases hex <;> rfl⟩

theorem RS.bounds (h : RS hex L FIN k nd ndM m dpv dot digs us tr) : ndM = min (mx hex) nd ∧ nd ≤ k ∧ -(k : Int) ≤ dpv ∧ dpv ≤ k ∧ m < bse hex ^ ndM := by
  obtain ⟨st, h⟩ := h
  refine ⟨h.eM, h.ndk, h.dp0, h.dp1, ?_⟩
  have := num_lt (bse hex) (by cases hex <;> decide) (st.D.take (mx hex)) fun d hd => h.dig d (List.mem_of_mem_take hd)
  rw [List.length_take, h.len, ← h.eM, ← h.em] at this
  exact this
theorem RS.m10 (h : RS false L FIN k nd ndM m dpv dot digs us tr) : (ndM < 19 → m ≤ 999999999999999999) ∧ m ≤ 9999999999999999999 := by
  obtain ⟨h1, _, _, _, h2⟩ := h.bounds
  have e19 : mx false = 19 := rfl
  have e10 : bse false = 10 := rfl
  rw [e19] at h1; rw [e10] at h2
  constructor
  · intro hl
    have : 10 ^ ndM ≤ 10 ^ 18 := Nat.pow_le_pow_right (by decide) (by omega)
    omega
  · have : 10 ^ ndM ≤ 10 ^ 19 := Nat.pow_le_pow_right (by decide) (by omega)
    omega
theorem RS.m16 (h : RS true L FIN k nd ndM m dpv dot digs us tr) : (ndM < 16 → m ≤ 1152921504606846975) ∧ m ≤ 18446744073709551615 := by
  obtain ⟨h1, _, _, _, h2⟩ := h.bounds
  have e19 : mx true = 16 := rfl
  have e10 : bse true = 16 := rfl
  rw [e19] at h1; rw [e10] at h2
  constructor
  · intro hl
    have : 16 ^ ndM ≤ 16 ^ 15 := Nat.pow_le_pow_right (by decide) (by omega)
    omega
  · have : 16 ^ ndM ≤ 16 ^ 16 := Nat.pow_le_pow_right (by decide) (by omega)
    omega

theorem run_step {r : List Nat} {c : Nat} {st st' : MS} (hr : L.drop k = c :: r) (hr' : L.drop (k + 1) = r) (h : mRun hex (L.drop k) st = FIN) (hs : mStep hex c st = some st') : mRun hex (L.drop (k + 1)) st' = FIN := by
  rw [hr, mRun_cons hex c r st st' hs] at h
  rw [hr']; exact h

theorem RS.under (h : RS hex L FIN k nd ndM m dpv dot digs us tr) (c : Nat) (hd : L.drop k = c :: L.drop (k + 1)) (hc : c = 95) : RS hex L FIN (k + 1) nd ndM m dpv dot digs true tr := by
  obtain ⟨st, h⟩ := h
  exact ⟨{ st with us := true }, ⟨h.len, h.eM, h.em, h.edot, h.edigs, rfl, h.etr, h.edp, h.edn, by have := h.ndk; omega, by have := h.dp0; omega, by have := h.dp1; omega, h.dig, run_step hd rfl h.run (by simp [mStep, hc])⟩⟩
theorem RS.point (h : RS hex L FIN k nd ndM m dpv false digs us tr) (c : Nat) (hd : L.drop k = c :: L.drop (k + 1)) (hc : c = 46) : RS hex L FIN (k + 1) nd ndM m nd true digs us tr := by
  obtain ⟨st, h⟩ := h
  have hdot := h.edot
  exact ⟨{ st with dot := true }, ⟨h.len, h.eM, h.em, rfl, h.edigs, h.eus, h.etr, fun _ => (h.edn rfl).symm, (fun h => by cases h), by have := h.ndk; omega, by omega, by have := h.ndk; omega, h.dig,
    run_step hd rfl h.run (by simp [mStep, hc, ← hdot])⟩⟩
theorem RS.zero (h : RS hex L FIN k nd ndM m dpv dot digs us tr) (c : Nat) (hd : L.drop k = c :: L.drop (k + 1)) (hc : c = 48) (h0 : nd = 0) : RS hex L FIN (k + 1) nd ndM m (dpv - 1) dot true us tr := by
  obtain ⟨st, h⟩ := h
  have hD : st.D = [] := List.length_eq_zero_iff.1 (by rw [h.len, h0])
  have hs : mStep hex c st = some (st.digit 0) := by subst hc; simp [mStep, digOf]
  have e : st.digit 0 = { st with digs := true, dp := if st.dot then st.dp - 1 else st.dp } := by simp [MS.digit, hD]
  refine ⟨st.digit 0, ?_⟩
  have hrun := run_step hd rfl h.run hs
  rw [e] at hrun ⊢
  refine ⟨h.len, h.eM, h.em, h.edot, rfl, h.eus, h.etr, fun hd => ?_, fun hd => ?_, by have := h.ndk; omega, by have := h.dp0; omega, by have := h.dp1; omega, h.dig, hrun⟩
  · have := h.edp hd; have hdot := h.edot; rw [hd] at hdot; simp [← hdot, this]
  · have := h.edn hd; have hdot := h.edot; rw [hd] at hdot; simp [← hdot, this]

theorem dig_gen (h : RS hex L FIN k nd ndM m dpv dot digs us tr) (c d : Nat) (hd : L.drop k = c :: L.drop (k + 1)) (h95 : c ≠ 95) (h46 : c ≠ 46) (hdig : digOf hex c = some d) (hdb : d < bse hex) (hn : ¬ (nd = 0 ∧ d = 0)) :
    ∃ st : MS, st.D.length = nd ∧ m = num (bse hex) (st.D.take (mx hex)) ∧ tr = trOf hex st.D ∧
      ∀ ndM' m' tr', ndM' = min (mx hex) (nd + 1) → m' = num (bse hex) ((st.D ++ [d]).take (mx hex)) → tr' = trOf hex (st.D ++ [d]) → RS hex L FIN (k + 1) (nd + 1) ndM' m' dpv dot true us tr' := by
  obtain ⟨st, h⟩ := h
  refine ⟨st, h.len, h.em, h.etr, fun ndM' m' tr' hM hm ht => ?_⟩
  have hs : mStep hex c st = some (st.digit d) := by simp [mStep, h95, h46, hdig]
  have hne : ¬ (st.D = [] ∧ d = 0) := fun hh => hn ⟨by rw [← h.len, hh.1]; rfl, hh.2⟩
  have e : st.digit d = { st with D := st.D ++ [d], digs := true, dp := if st.dot then st.dp else st.dp + 1 } := by simp [MS.digit, hne]
  have hrun := run_step hd rfl h.run hs
  rw [e] at hrun
  refine ⟨⟨st.D ++ [d], if st.dot = true then st.dp else st.dp + 1, st.dot, true, st.us⟩, ⟨by simp [h.len], hM, hm, h.edot, rfl, h.eus, ht, fun hd => ?_, fun hd => ?_, by have := h.ndk; omega, by have := h.dp0; omega, by have := h.dp1; omega, fun x hx => ?_, hrun⟩⟩
  · have := h.edp hd; have hdot := h.edot; rw [hd] at hdot; simp [← hdot, this]
  · have := h.edn hd; have hdot := h.edot; rw [hd] at hdot; simp [← hdot, this]
  · rcases List.mem_append.1 hx with hx | hx
    · exact h.dig x hx
    · rw [List.mem_singleton.1 hx]; exact hdb

theorem RS.digLo (h : RS hex L FIN k nd ndM m dpv dot digs us tr) (c d : Nat) (hd : L.drop k = c :: L.drop (k + 1)) (h95 : c ≠ 95) (h46 : c ≠ 46) (hdig : digOf hex c = some d) (hdb : d < bse hex) (hn : ¬ (nd = 0 ∧ d = 0)) (hl : ndM < mx hex) :
    RS hex L FIN (k + 1) (nd + 1) (ndM + 1) (m * bse hex + d) dpv dot true us tr := by
  obtain ⟨hM, _⟩ := h.bounds
  obtain ⟨st, hlen, hm, ht, H⟩ := dig_gen h c d hd h95 h46 hdig hdb hn
  refine H _ _ _ (by omega) ?_ ?_
  · rw [List.take_of_length_le (by simp; omega), num_snoc, hm, List.take_of_length_le (by omega)]
  · rw [ht]; unfold trOf; rw [List.drop_eq_nil_of_le (by omega), List.drop_eq_nil_of_le (by simp; omega)]
theorem RS.digHi (h : RS hex L FIN k nd ndM m dpv dot digs us tr) (c d : Nat) (hd : L.drop k = c :: L.drop (k + 1)) (h95 : c ≠ 95) (h46 : c ≠ 46) (hdig : digOf hex c = some d) (hdb : d < bse hex) (hl : ¬ ndM < mx hex) :
    RS hex L FIN (k + 1) (nd + 1) ndM m dpv dot true us (tr || d != 0) := by
  obtain ⟨hM, _⟩ := h.bounds
  have hmx : 0 < mx hex := by cases hex <;> decide
  obtain ⟨st, hlen, hm, ht, H⟩ := dig_gen h c d hd h95 h46 hdig hdb (by omega)
  refine H _ _ _ (by omega) ?_ ?_
  · rw [hm, List.take_append_of_le_length (by omega)]
  · rw [ht]; unfold trOf; rw [List.drop_append_of_le_length (by omega), List.any_append]; simp

/-- the run has come to its end at this state -/
structure RDone (hex : Bool) (L : List Nat) (FIN : MS × List Nat) (k nd ndM m : Nat) (dpv : Int) (dot digs us tr : Bool) : Prop where
  rs : RSf hex L FIN k nd ndM m dpv dot digs us tr FIN.1
  rest : FIN.2 = L.drop k
theorem RS.stop (h : RS hex L FIN k nd ndM m dpv dot digs us tr) (c : Nat) (hd : L.drop k = c :: L.drop (k + 1)) (hs : ∀ st : MS, st.dot = dot → mStep hex c st = none) : RDone hex L FIN k nd ndM m dpv dot digs us tr := by
  obtain ⟨st, h⟩ := h
  have e := h.run
  rw [hd, mRun_stop hex c _ st (hs st h.edot.symm), ← hd] at e
  have : FIN.1 = st := by rw [← e]
  exact ⟨by rw [this]; exact h, by rw [← e]⟩
theorem RS.done (h : RS hex L FIN k nd ndM m dpv dot digs us tr) (hd : L.drop k = []) : RDone hex L FIN k nd ndM m dpv dot digs us tr := by
  obtain ⟨st, h⟩ := h
  have e := h.run
  rw [hd, mRun_end] at e
  have : FIN.1 = st := by rw [← e]
  exact ⟨by rw [this]; exact h, by rw [← e, hd]⟩
end Go.Proofs.YtdfbokmjipdolaaGreatDoor
