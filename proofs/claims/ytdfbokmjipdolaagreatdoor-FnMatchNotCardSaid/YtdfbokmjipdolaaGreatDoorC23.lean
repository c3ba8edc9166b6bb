/- Plain words for atof64: bounds of readFloat's answer; the answer itself; what lies in the world. -/
import Derived.Test.YtdfbokmjipdolaaGreatDoorQ15
import Derived.Test.YtdfbokmjipdolaaGreatDoorC20
import Derived.Test.YtdfbokmjipdolaaGreatDoorA4
import Derived.Test.YtdfbokmjipdolaaGreatDoorA4h
set_option linter.unusedVariables false
set_option linter.unusedSimpArgs false
namespace Go.Proofs.YtdfbokmjipdolaaGreatDoor
open Go.RowKit

theorem mRun_dp (hex : Bool) : ∀ (l : List Nat) (st : MS), st.dp - l.length ≤ (mRun hex l st).1.dp ∧ (mRun hex l st).1.dp ≤ st.dp + l.length
  | [], st => by rw [mRun_end]; simp
  | c :: r, st => by
    cases hs : mStep hex c st with
    | none => rw [mRun_stop hex c r st hs]; simp only [List.length_cons]; omega
    | some st1 =>
      rw [mRun_cons hex c r st st1 hs]
      have h1 := mRun_dp hex r st1
      have h2 : st.dp - 1 ≤ st1.dp ∧ st1.dp ≤ st.dp + 1 := by
        unfold mStep at hs
        split at hs
        · injection hs with hs; subst hs; simp only; omega
        · split at hs
          · split at hs
            · cases hs
            · injection hs with hs; subst hs; simp only; omega
          · cases hd : digOf hex c with
            | none => rw [hd] at hs; cases hs
            | some d =>
              rw [hd] at hs
              simp only [Option.map_some, Option.some.injEq] at hs
              subst hs
              unfold MS.digit
              split <;> simp only <;> split <;> omega
      simp only [List.length_cons]; omega
theorem eRun_le : ∀ (l : List Nat) (e : Nat) (u : Bool), e ≤ 99999 → (eRun l e u).1.1 ≤ 99999
  | [], e, u, h => h
  | c :: r, e, u, h => by
    by_cases h95 : c = 95
    · rw [eRun_us c r e u h95]; exact eRun_le r e true h
    · by_cases hd : 48 ≤ c ∧ c ≤ 57
      · rw [eRun_dig c r e u hd.1 hd.2]; exact eRun_le r _ u (by split <;> omega)
      · rw [eRun_stop c r e u h95 hd]; exact h
theorem xRead_le (r : List Nat) (e : Int) (u : Bool) (R : List Nat) (h : xRead r = some ((e, u), R)) : -99999 ≤ e ∧ e ≤ 99999 := by
  rw [xRead_eq] at h
  cases hr : xRest r with
  | nil => rw [hr] at h; cases h
  | cons c t =>
    rw [hr] at h
    by_cases hb : c < 48 ∨ 57 < c
    · rw [xr1_bad _ c t hb] at h; cases h
    · rw [xr1_ok _ c t hb] at h
      obtain ⟨hX, _⟩ := Prod.mk.inj (Option.some.inj h)
      obtain ⟨hX, _⟩ := Prod.mk.inj hX
      have := eRun_le (c :: t) 0 false (by decide)
      rcases xSg_or r with hs | hs <;> rw [hs] at hX <;> omega
theorem rf_facts (l : List Nat) (r : RF) (h : rf l = some r) (hl : l.length ≤ 400) : -200000 ≤ r.exp ∧ r.exp ≤ 200000 ∧ r.hex = rfHex l ∧ r.i ≤ l.length ∧ r.mant = num (bse (rfHex l)) ((rfFin l).1.D.take (mx (rfHex l))) ∧ r.tr = trOf (rfHex l) (rfFin l).1.D := by
  have hdp := mRun_dp (rfHex l) (l.drop (rfI1 l)) .start
  have e0 : (MS.start).dp = 0 := rfl
  rw [e0, List.length_drop] at hdp
  have hF : mRun (rfHex l) (l.drop (rfI1 l)) .start = rfFin l := rfl
  rw [hF] at hdp
  have hfl := rfFin_len l
  unfold rf at h
  split at h
  · cases h
  · split at h
    · unfold rfExpo at h
      have fin : ∀ (dp : Int) (u : Bool) (rest : List Nat), -101700 ≤ dp → dp ≤ 101700 → rfEnd l (rfNeg l) (rfHex l) (rfFin l).1 dp u rest = some r → -200000 ≤ r.exp ∧ r.exp ≤ 200000 ∧ r.hex = rfHex l ∧ r.i ≤ l.length ∧ r.mant = num (bse (rfHex l)) ((rfFin l).1.D.take (mx (rfHex l))) ∧ r.tr = trOf (rfHex l) (rfFin l).1.D := by
        intro dp u rest h1 h2 h3
        unfold rfEnd at h3
        split at h3
        · cases h3
        · injection h3 with h3
          subst h3
          have h4 : (min (mx (rfHex l)) (rfFin l).1.D.length * four (rfHex l) : Nat) ≤ 76 := by
            cases rfHex l
            · have : min (mx false) (rfFin l).1.D.length ≤ 19 := Nat.min_le_left _ _
              have e4 : four false = 1 := rfl
              rw [e4]; omega
            · have : min (mx true) (rfFin l).1.D.length ≤ 16 := Nat.min_le_left _ _
              have e4 : four true = 4 := rfl
              rw [e4]; omega
          refine ⟨?_, ?_, rfl, by simp only; omega, rfl, rfl⟩
          · simp only; split <;> omega
          · simp only; split <;> omega
      have f4 : (four (rfHex l) : Int) = 1 ∨ (four (rfHex l) : Int) = 4 := by cases rfHex l <;> simp [four]
      split at h
      · cases hx : xRead (rfFin l).2.tail with
        | none => rw [hx] at h; cases h
        | some X =>
          obtain ⟨⟨e, u⟩, rest⟩ := X
          have hb := xRead_le _ e u rest hx
          rw [hx] at h
          simp only at h
          refine fin _ _ _ ?_ ?_ h
          · rcases f4 with f | f <;> rw [f] <;> omega
          · rcases f4 with f | f <;> rw [f] <;> omega
      · split at h
        · cases h
        · refine fin _ _ _ ?_ ?_ h
          · rcases f4 with f | f <;> rw [f] <;> omega
          · rcases f4 with f | f <;> rw [f] <;> omega
    · cases h
theorem rf_hexFacts (l : List Nat) (r : RF) (h : rf l = some r) (hl : l.length ≤ 400) (hx : rfHex l = true) : r.mant < 18446744073709551616 ∧ (r.tr = true → 2 ^ 60 ≤ r.mant) := by
  obtain ⟨_, _, _, _, e1, e2⟩ := rf_facts l r h hl
  have hok := rfFin_ok l
  rw [hx] at e1 e2 hok
  have h16 : bse true = 16 := rfl
  have hmx : mx true = 16 := rfl
  rw [h16, hmx] at e1
  have hd : ∀ x ∈ (rfFin l).1.D, x < 16 := fun x hx => hok.dig x hx
  have hlead := hok.lead
  rw [e1, e2]
  generalize (rfFin l).1.D = D at *
  have h1 := num_lt 16 (by decide) (D.take 16) (fun x hx => hd x (List.mem_of_mem_take hx))
  have h2 : (D.take 16).length ≤ 16 := by rw [List.length_take]; omega
  refine ⟨Nat.lt_of_lt_of_le h1 (Nat.le_trans (Nat.pow_le_pow_right (by decide) h2) (by decide)), fun ht => ?_⟩
  have hlen : 16 < D.length := by
    refine Decidable.byContradiction fun hc => ?_
    unfold trOf at ht
    rw [hmx, List.drop_eq_nil_of_le (by omega)] at ht
    cases ht
  cases D with
  | nil => cases hlen
  | cons x t =>
    have hx : x ≠ 0 := by simpa using hlead
    rw [List.take_succ_cons, num_cons]
    have h3 : (t.take 15).length = 15 := by rw [List.length_take]; simp at hlen; omega
    rw [h3]
    have e60 : (2 : Nat) ^ 60 = 16 ^ 15 := by decide
    rw [e60]
    exact Nat.le_trans (Nat.le_mul_of_pos_left _ (Nat.pos_of_ne_zero hx)) (Nat.le_add_right _ _)

/-- a text's value rounds to infinity -/
def ATBig (l : List Nat) (r : RF) : Prop := if r.hex then bigX (stk r.mant r.tr) r.exp else decBig (rfFin l).1.D (r.exp + (min 19 (rfFin l).1.D.length : Nat))
/-- atof64's answer -/
def ATOk (l : List Nat) (b : Nat) (n : Int) (v : Value) : Prop :=
  match sp l with
  | some r => n = r.2 ∧ v = .nilIface ∧ nan64 b = r.1
  | none => match rf l with
    | none => v = .iface 79 (.int .i64 2) ∧ b = 0
    | some r => n = r.i ∧ nan64 b = false ∧ ((v = .iface 79 (.int .i64 1) ∧ ATBig l r) ∨ (v = .nilIface ∧ ¬ ATBig l r))
def ATPost (l : List Nat) (w : World) (e : Ending) (w' : World) : Prop := Below w.heap.size w w' ∧ ∃ (b : Nat) (n : Int) (v : Value), e = .returned (.tuple #[.float .f64 b, .int .i64 n, v]) ∧ ATOk l b n v

/-- the library's tables lie in the world -/
def LcG (w : World) : Prop := ∃ tb ofs : Nat, w.cell? ⟨16, 0, none⟩ = some (.slice (some ⟨tb, ofs, none⟩) 61 61) ∧
  ∀ k, 1 ≤ k → k ≤ 60 → ∃ (dl : Nat) (s : ByteArray), w.cell? ⟨tb, ofs + k * 2, none⟩ = some (.int .i64 dl) ∧ w.cell? ⟨tb, ofs + k * 2 + 1, none⟩ = some (.string s) ∧ LcOk k dl (bsN s) ∧ s.size ≤ 60
def PwG (w : World) : Prop := ∃ tb ofs : Nat, w.cell? ⟨10, 0, none⟩ = some (.slice (some ⟨tb, ofs, none⟩) 9 9) ∧ ∀ i < 9, w.cell? ⟨tb, ofs + i, none⟩ = some (.int .i64 (pwt i))
structure SG (w : World) : Prop where
  sz : 17 ≤ w.heap.size
  pow : Pow10At w
  f10 : F10At w
  info : InfoAt w
  opt : w.cell? ⟨3, 0, none⟩ = some (.bool true)
  lc : LcG w
  pw : PwG w
  e0 : ∃ te pe, w.cell? ⟨0, 0, none⟩ = some (.iface te pe)
  e1 : ∃ te pe, w.cell? ⟨1, 0, none⟩ = some (.iface te pe)
theorem LcG.at' {w w' : World} {b : Nat} (h : LcG w) (hb : w.heap.size ≤ b) (h16 : 16 < w.heap.size) (hc : ∀ a v, w.cell? a = some v → w'.cell? a = some v) : LcAt w' b := by
  obtain ⟨tb, ofs, h1, h2⟩ := h
  refine ⟨by omega, tb, ofs, ?_, hc _ _ h1, fun k k1 k2 => ?_⟩
  · obtain ⟨dl, s, a, _⟩ := h2 1 (by decide) (by decide)
    have := World.block_lt_of_cell? _ _ a
    simp only at this
    omega
  · obtain ⟨dl, s, a, b, c⟩ := h2 k k1 k2
    exact ⟨dl, s, hc _ _ a, hc _ _ b, c⟩
theorem PwG.at' {w w' : World} {b : Nat} (h : PwG w) (hb : w.heap.size ≤ b) (h16 : 16 < w.heap.size) (hc : ∀ a v, w.cell? a = some v → w'.cell? a = some v) : PwAt w' b := by
  obtain ⟨tb, ofs, h1, h2⟩ := h
  refine ⟨by omega, tb, ofs, ?_, hc _ _ h1, fun k k1 => hc _ _ (h2 k k1)⟩
  have := World.block_lt_of_cell? _ _ (h2 0 (by decide))
  simp only at this
  omega
theorem InfoAt.later {w w' : World} (h : InfoAt w) (hb : Below w.heap.size w w') : InfoAt w' := by
  have h4 : 4 < w.heap.size := World.block_lt_of_cell? _ _ h.c0
  refine ⟨cell_later hb h.c0, cell_later hb h.c1, cell_later hb h.c2, ?_, ?_⟩
  · obtain ⟨c, t, h⟩ := h.f4
    exact ⟨c, t, by rw [hb.block 4 h4]; exact h⟩
  · obtain ⟨c, t, h⟩ := h.f2
    exact ⟨c, t, by rw [hb.block 2 (by omega)]; exact h⟩
theorem SG.later {w w' : World} (h : SG w) (hb : Below w.heap.size w w') : SG w' := by
  obtain ⟨v0, v0', h0⟩ := h.e0
  obtain ⟨v1, v1', h1⟩ := h.e1
  refine ⟨Nat.le_trans h.sz hb.size, h.pow.later hb, ?_, h.info.later hb, cell_later hb h.opt, ?_, ?_, ⟨v0, v0', cell_later hb h0⟩, ⟨v1, v1', cell_later hb h1⟩⟩
  · obtain ⟨tb, ofs, a, b⟩ := h.f10
    exact ⟨tb, ofs, cell_later hb a, fun i hi => cell_later hb (b i hi)⟩
  · obtain ⟨tb, ofs, a, b⟩ := h.lc
    refine ⟨tb, ofs, cell_later hb a, fun k k1 k2 => ?_⟩
    obtain ⟨dl, s, c, d, e⟩ := b k k1 k2
    exact ⟨dl, s, cell_later hb c, cell_later hb d, e⟩
  · obtain ⟨tb, ofs, a, b⟩ := h.pw
    exact ⟨tb, ofs, cell_later hb a, fun i hi => cell_later hb (b i hi)⟩

/-- a new block that is a decimal -/
theorem alloc_wD (w : World) (d : Array Nat) (n dp : Int) (ng tr : Bool) (t : TypeId) : w.alloc (.cells (dC d n dp ng tr) t) = wD (w.alloc (.cells (dC d n dp ng tr) t)) w.heap.size t d n dp ng tr := by
  unfold wD World.alloc
  congr 1
  apply Array.ext_getElem?
  intro i
  by_cases h : i = w.heap.size
  · subst h; simp
  · rw [Array.getElem?_setIfInBounds_ne (Ne.symm h)]
def zeroD : Array Nat := Array.replicate 800 0
theorem alloc_dec (w : World) : (Instr.alloc 137 true (.tuple #[])).run Tryz.prog w = .ok (.pointer (some ⟨w.heap.size, 0, none⟩)) (w.alloc (.cells (dC zeroD 0 0 false false) 137)) := by kernel_rfl
end Go.Proofs.YtdfbokmjipdolaaGreatDoor
