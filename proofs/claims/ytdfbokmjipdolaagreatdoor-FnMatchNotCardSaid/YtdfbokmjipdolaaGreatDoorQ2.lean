/- Texts of the proof, joined: D1, D2, D3. -/
import Derived.Test.YtdfbokmjipdolaaGreatDoorQ1
set_option linter.unusedVariables false
set_option linter.unusedSimpArgs false
/- Plain law of the light decimal: a list of digits without a limit; halving and doubling are exact. -/
namespace Go.Proofs.YtdfbokmjipdolaaGreatDoor
open Go.RowKit

/-- zeros at the end struck -/
def ltrim (D : List Nat) : List Nat := (D.reverse.dropWhile (· == 0)).reverse
theorem ltrim_nil : ltrim [] = [] := rfl
theorem ltrim_zero (D : List Nat) : ltrim (D ++ [0]) = ltrim D := by simp [ltrim]
theorem ltrim_last (D : List Nat) (x : Nat) (h : x ≠ 0) : ltrim (D ++ [x]) = D ++ [x] := by simp [ltrim, h]
theorem list_snoc (D : List Nat) (h : D ≠ []) : ∃ E x, D = E ++ [x] := ⟨D.dropLast, D.getLast h, (List.dropLast_concat_getLast h).symm⟩
theorem ltrim_pre (D : List Nat) : ∃ j, D = ltrim D ++ List.replicate j 0 ∧ (ltrim D).getLast? ≠ some 0 := by
  generalize hn : D.length = n
  induction n generalizing D with
  | zero => rw [List.length_eq_zero_iff.1 hn]; exact ⟨0, rfl, by simp [ltrim]⟩
  | succ n ih =>
    obtain ⟨E, x, rfl⟩ := list_snoc D (by rintro rfl; simp at hn)
    by_cases hx : x = 0
    · subst hx
      obtain ⟨j, h1, h2⟩ := ih E (by simpa using hn)
      rw [ltrim_zero]
      refine ⟨j + 1, ?_, h2⟩
      rw [List.replicate_succ', ← List.append_assoc, ← h1]
    · rw [ltrim_last E x hx]
      exact ⟨0, by simp, by simpa using hx⟩
theorem num_zeros (b j : Nat) : num b (List.replicate j 0) = 0 := by
  induction j with
  | zero => rfl
  | succ j ih => rw [List.replicate_succ', num_snoc, ih]; simp

/-- the digits of a light decimal -/
structure LOk (D : List Nat) : Prop where
  dig : ∀ x ∈ D, x < 10
  ne : D ≠ []
  lead : D.head? ≠ some 0
  last : D.getLast? ≠ some 0

/-- the value at the scale s: D's digits behind the point, the point moved by dp -/
def V (s : Nat) (D : List Nat) (dp : Int) : Nat := num 10 D * 10 ^ ((s : Int) + dp - D.length).toNat

theorem V_trim (s : Nat) (D : List Nat) (dp : Int) (h : (D.length : Int) ≤ s + dp) : V s (ltrim D) dp = V s D dp := by
  obtain ⟨j, hD, _⟩ := ltrim_pre D
  have hl : D.length = (ltrim D).length + j := by conv => lhs; rw [hD]; simp
  have hn : num 10 D = num 10 (ltrim D) * 10 ^ j := by conv => lhs; rw [hD, num_append, num_zeros]; simp
  unfold V
  rw [hn, Nat.mul_assoc, ← Nat.pow_add]
  congr 2
  omega
theorem ltrim_len (D : List Nat) : (ltrim D).length ≤ D.length := by
  obtain ⟨j, hD, _⟩ := ltrim_pre D
  conv => rhs; rw [hD]
  simp
theorem ltrim_ok {D : List Nat} (h1 : ∀ x ∈ D, x < 10) (h2 : D.head? ≠ some 0) (h3 : D ≠ []) : LOk (ltrim D) := by
  obtain ⟨j, hD, hl⟩ := ltrim_pre D
  have hne : ltrim D ≠ [] := by
    intro he
    rw [he, List.nil_append] at hD
    cases j with
    | zero => exact h3 hD
    | succ j => rw [hD] at h2; exact h2 rfl
  refine ⟨fun x hx => h1 x (by rw [hD]; exact List.mem_append_left _ hx), hne, ?_, hl⟩
  intro he
  apply h2
  rw [hD, List.head?_append, he]
  rfl

/-- the first i digits as a number, zeros behind the last -/
def hN (D : List Nat) : Nat → Nat
  | 0 => 0
  | i + 1 => hN D i * 10 + D.getD i 0
theorem hN_take (D : List Nat) (i : Nat) (h : i ≤ D.length) : hN D i = num 10 (D.take i) := by
  induction i with
  | zero => rfl
  | succ i ih =>
    rw [hN, ih (by omega), List.take_succ_eq_append_getElem (by omega), num_snoc]
    simp [List.getD_eq_getElem?_getD, List.getElem?_eq_getElem (show i < D.length by omega)]
theorem hN_all (D : List Nat) (j : Nat) : hN D (D.length + j) = num 10 D * 10 ^ j := by
  induction j with
  | zero => rw [Nat.add_zero, hN_take D _ (Nat.le_refl _), List.take_length, Nat.pow_zero, Nat.mul_one]
  | succ j ih =>
    rw [← Nat.add_assoc, hN, ih, List.getD_eq_getElem?_getD, List.getElem?_eq_none (by omega), Option.getD_none, Nat.pow_succ, Nat.add_zero, Nat.mul_assoc]
theorem hN_rest (D : List Nat) (i : Nat) : hN D i * 10 ^ (D.drop i).length + num 10 (D.drop i) = num 10 D * 10 ^ (i + (D.drop i).length - D.length) := by
  rcases Nat.le_total i D.length with h | h
  · rw [hN_take D i h, ← num_append, List.take_append_drop, List.length_drop, show i + (D.length - i) - D.length = 0 by omega, Nat.pow_zero, Nat.mul_one]
  · obtain ⟨j, rfl⟩ : ∃ j, i = D.length + j := ⟨i - D.length, by omega⟩
    rw [hN_all, List.drop_eq_nil_of_le h]
    simp [num]
theorem getD_lt {D : List Nat} (h : ∀ x ∈ D, x < 10) (i : Nat) : D.getD i 0 < 10 := by
  rw [List.getD_eq_getElem?_getD]
  rcases Nat.lt_or_ge i D.length with hi | hi
  · rw [List.getElem?_eq_getElem hi, Option.getD_some]; exact h _ (List.getElem_mem hi)
  · rw [List.getElem?_eq_none hi]; decide
theorem hN_low {D : List Nat} (hd : LOk D) (i : Nat) : D.getD 0 0 * 10 ^ i ≤ hN D (i + 1) ∧ 1 ≤ D.getD 0 0 := by
  have h0 : 1 ≤ D.getD 0 0 := by
    cases hD : D with
    | nil => exact absurd hD hd.ne
    | cons x r =>
      have := hd.lead
      rw [hD] at this
      simp at this ⊢
      omega
  refine ⟨?_, h0⟩
  induction i with
  | zero => simp [hN]
  | succ i ih => rw [hN, Nat.pow_succ, ← Nat.mul_assoc]; omega
theorem hN_high {D : List Nat} (hd : LOk D) (i : Nat) : hN D (i + 1) < (D.getD 0 0 + 1) * 10 ^ i := by
  induction i with
  | zero => simp [hN]
  | succ i ih => rw [hN, Nat.pow_succ, ← Nat.mul_assoc]; have := getD_lt hd.dig (i + 1); omega

/-- half: the digits that come, from the dividend n on, with the digits r still to come -/
def hOut (k : Nat) : Nat → Nat → List Nat → List Nat
  | 0, _, _ => []
  | f + 1, n, r => if r = [] ∧ n = 0 then [] else n / 2 ^ k :: hOut k f (n % 2 ^ k * 10 + r.headD 0) r.tail

def hFin (k f n : Nat) (r : List Nat) : Prop := (r = [] ∧ n = 0) ∨ ∃ j, j ≤ k ∧ (j = 0 ∨ r = []) ∧ 2 ^ j ∣ n ∧ r.length + k + 1 ≤ f + j
theorem hFin.next {k f n : Nat} {r : List Nat} (h : hFin k (f + 1) n r) (hne : ¬ (r = [] ∧ n = 0)) : hFin k f (n % 2 ^ k * 10 + r.headD 0) r.tail := by
  rcases h with h | ⟨j, hj, h0, hd, hl⟩
  · exact absurd h hne
  · cases r with
    | nil =>
      simp only [List.headD_nil, Nat.add_zero, List.tail_nil, List.length_nil] at *
      by_cases hk : j = k
      · subst hk
        left
        refine ⟨rfl, ?_⟩
        rw [Nat.mod_eq_zero_of_dvd hd]
      · right
        refine ⟨j + 1, by omega, Or.inr rfl, ?_, by simp; omega⟩
        have h1 : 2 ^ j ∣ n % 2 ^ k := (Nat.dvd_mod_iff (Nat.pow_dvd_pow 2 hj)).2 hd
        rw [Nat.pow_succ]
        exact Nat.mul_dvd_mul h1 (by decide)
    | cons d r =>
      right
      rcases h0 with rfl | h0
      · refine ⟨0, Nat.zero_le _, Or.inl rfl, by simp, ?_⟩
        simp only [List.length_cons, List.tail_cons] at *
        omega
      · cases h0
theorem hFin.start (k n : Nat) (r : List Nat) : hFin k (r.length + k + 1) n r := Or.inr ⟨0, Nat.zero_le _, Or.inl rfl, by simp, by omega⟩
theorem hFin.zero {k n : Nat} {r : List Nat} (h : hFin k 0 n r) : r = [] ∧ n = 0 := by
  rcases h with h | ⟨j, hj, h0, hd, hl⟩
  · exact h
  · omega
theorem hOut_end (k f : Nat) : hOut k f 0 [] = [] := by cases f <;> simp [hOut]
theorem hOut_step (k f n : Nat) (r : List Nat) (h : ¬ (r = [] ∧ n = 0)) : hOut k (f + 1) n r = n / 2 ^ k :: hOut k f (n % 2 ^ k * 10 + r.headD 0) r.tail := by rw [hOut, if_neg h]
theorem num_split (d : Nat) (r : List Nat) : num 10 (d :: r) = d * 10 ^ r.length + num 10 r := num_cons 10 d r
theorem hOut_num (k : Nat) : ∀ (f n : Nat) (r : List Nat), hFin k f n r → num 10 (hOut k f n r) * 2 ^ k * 10 ^ (r.length + 1) = (n * 10 ^ r.length + num 10 r) * 10 ^ (hOut k f n r).length
  | 0, n, r, h => by
    obtain ⟨rfl, rfl⟩ := h.zero
    simp [hOut, num]
  | f + 1, n, r, h => by
    by_cases he : r = [] ∧ n = 0
    · obtain ⟨rfl, rfl⟩ := he
      rw [hOut_end]; simp [num]
    · have ih := hOut_num k f _ _ (h.next he)
      rw [hOut_step k f n r he, num_split, List.length_cons]
      generalize hOut k f (n % 2 ^ k * 10 + r.headD 0) r.tail = O at *
      have hn : n / 2 ^ k * 2 ^ k + n % 2 ^ k = n := Nat.div_add_mod' n (2 ^ k)
      have hr : (n % 2 ^ k * 10 + r.headD 0) * 10 ^ r.tail.length + num 10 r.tail = n % 2 ^ k * 10 ^ (r.tail.length + 1) + (r.headD 0 * 10 ^ r.tail.length + num 10 r.tail) := by
        rw [Nat.add_mul, Nat.mul_assoc, ← Nat.pow_succ', Nat.add_assoc]
      cases r with
      | nil =>
        simp only [List.headD_nil, List.tail_nil, List.length_nil, Nat.pow_zero, Nat.mul_one, Nat.zero_add, Nat.pow_one, num, List.foldl_nil, Nat.add_zero, Nat.zero_mul] at *
        generalize n / 2 ^ k = a at *
        generalize n % 2 ^ k = b at *
        generalize 2 ^ k = c at *
        subst hn
        rw [Nat.pow_succ, Nat.add_mul, Nat.add_mul, Nat.add_mul, ih]
        rw [show a * 10 ^ O.length * c * 10 = a * c * (10 ^ O.length * 10) by ac_rfl, show b * 10 * 10 ^ O.length = b * (10 ^ O.length * 10) by ac_rfl]
      | cons d r =>
        simp only [List.headD_cons, List.tail_cons, List.length_cons] at *
        rw [num_split] 
        generalize n / 2 ^ k = a at *
        generalize n % 2 ^ k = b at *
        generalize 2 ^ k = c at *
        generalize num 10 r = x at *
        subst hn
        rw [Nat.add_mul, Nat.add_mul, Nat.pow_succ 10 (r.length + 1), ← Nat.mul_assoc (num 10 O * c), ih, Nat.pow_succ 10 O.length, hr]
        generalize 10 ^ O.length = y
        rw [Nat.pow_succ]
        generalize 10 ^ r.length = z
        simp only [Nat.add_mul, Nat.mul_add]
        ac_rfl
theorem hOut_dig (k : Nat) : ∀ (f n : Nat) (r : List Nat), n < 10 * 2 ^ k → (∀ x ∈ r, x < 10) → ∀ x ∈ hOut k f n r, x < 10
  | 0, _, _, _, _ => by simp [hOut]
  | f + 1, n, r, hn, hr => by
    by_cases he : r = [] ∧ n = 0
    · obtain ⟨rfl, rfl⟩ := he
      rw [hOut_end]; simp
    · rw [hOut_step k f n r he]
      intro x hx
      have hp : 0 < 2 ^ k := Nat.two_pow_pos k
      rcases List.mem_cons.1 hx with rfl | hx
      · exact (Nat.div_lt_iff_lt_mul hp).2 hn
      · refine hOut_dig k f _ _ ?_ (fun y hy => hr y (List.mem_of_mem_tail hy)) x hx
        have h1 := Nat.mod_lt n hp
        have h2 : r.headD 0 < 10 := by
          cases r with
          | nil => decide
          | cons d r => exact hr d List.mem_cons_self
        omega
theorem hOut_len (k : Nat) : ∀ (f n : Nat) (r : List Nat), (hOut k f n r).length ≤ f
  | 0, _, _ => by simp [hOut]
  | f + 1, n, r => by
    rw [hOut]
    split
    · simp
    · have := hOut_len k f (n % 2 ^ k * 10 + r.headD 0) r.tail
      simp only [List.length_cons]; omega

/-- the place of the first digit of the half -/
def hIx (k : Nat) (D : List Nat) : Nat → Nat → Nat
  | 0, i => i
  | f + 1, i => if 2 ^ k ≤ hN D i then i else hIx k D f (i + 1)
def hI (k : Nat) (D : List Nat) : Nat := hIx k D 20 0
theorem hIx_stop {k : Nat} {D : List Nat} {f i : Nat} (h : 2 ^ k ≤ hN D i) : hIx k D f i = i := by cases f <;> simp [hIx, h]
theorem hN_mono {D : List Nat} (hd : LOk D) (i : Nat) : hN D i < hN D (i + 1) := by
  cases i with
  | zero => have := (hN_low hd 0).1; have := (hN_low hd 0).2; simp [hN] at *; omega
  | succ i =>
    have h1 := (hN_low hd i).1
    have h2 := (hN_low hd i).2
    have h3 : 0 < 10 ^ i := Nat.pow_pos (by decide)
    have h4 : 1 * 10 ^ i ≤ D.getD 0 0 * 10 ^ i := Nat.mul_le_mul_right _ h2
    rw [hN.eq_2 D (i + 1)]
    omega
theorem hIx_spec {D : List Nat} (hd : LOk D) {k : Nat} (hk : k ≤ 59) : ∀ (f i : Nat), 20 ≤ f + i → i ≤ 19 → (i = 0 ∨ hN D (i - 1) < 2 ^ k) → 1 ≤ hIx k D f i ∧ hIx k D f i ≤ 19 ∧ hN D (hIx k D f i - 1) < 2 ^ k ∧ 2 ^ k ≤ hN D (hIx k D f i)
  | 0, i, h1, h2, _ => by omega
  | f + 1, i, h1, h2, h3 => by
    rw [hIx]
    split
    · rename_i h
      have hp : 0 < 2 ^ k := Nat.two_pow_pos k
      have hi : 1 ≤ i := by
        refine Nat.one_le_iff_ne_zero.2 fun h0 => ?_
        subst h0
        have e : hN D 0 = 0 := rfl
        omega
      exact ⟨hi, h2, by omega, h⟩
    · rename_i h
      by_cases h19 : i = 19
      · exfalso
        apply h
        have h4 : D.getD 0 0 * 10 ^ 18 ≤ hN D 19 := (hN_low hd 18).1
        have h5 := (hN_low hd 18).2
        have h6 : 1 * 10 ^ 18 ≤ D.getD 0 0 * 10 ^ 18 := Nat.mul_le_mul_right _ h5
        have h7 : 2 ^ k ≤ 2 ^ 59 := Nat.pow_le_pow_right (by decide) hk
        rw [h19]
        have h8 : 2 ^ 59 ≤ 10 ^ 18 := by decide
        omega
      · exact hIx_spec hd hk f (i + 1) (by omega) (by omega) (Or.inr (by simpa using h))
theorem hI_spec {D : List Nat} (hd : LOk D) {k : Nat} (hk : k ≤ 59) : 1 ≤ hI k D ∧ hI k D ≤ 19 ∧ hN D (hI k D - 1) < 2 ^ k ∧ 2 ^ k ≤ hN D (hI k D) := hIx_spec hd hk 20 0 (by omega) (by omega) (Or.inl rfl)

def halfO (k : Nat) (D : List Nat) : List Nat := hOut k ((D.drop (hI k D)).length + k + 1) (hN D (hI k D)) (D.drop (hI k D))
def halfD (k : Nat) (D : List Nat) : List Nat := ltrim (halfO k D)
def halfP (k : Nat) (D : List Nat) (dp : Int) : Int := dp - hI k D + 1
theorem hN_hI_lt {D : List Nat} (hd : LOk D) {k : Nat} (hk : k ≤ 59) : hN D (hI k D) < 10 * 2 ^ k := by
  obtain ⟨h1, _, h3, _⟩ := hI_spec hd hk
  obtain ⟨i, hi⟩ : ∃ i, hI k D = i + 1 := ⟨hI k D - 1, by omega⟩
  rw [hi] at h3 ⊢
  rw [hN]
  have := getD_lt hd.dig i
  simp at h3
  omega
theorem halfO_len {D : List Nat} {k : Nat} : (halfO k D).length ≤ D.length + k + 1 := by
  have h1 := hOut_len k ((D.drop (hI k D)).length + k + 1) (hN D (hI k D)) (D.drop (hI k D))
  rw [List.length_drop] at h1
  unfold halfO
  rw [List.length_drop]
  omega
theorem halfO_cons {D : List Nat} (hd : LOk D) {k : Nat} (hk : k ≤ 59) : ∃ r, halfO k D = hN D (hI k D) / 2 ^ k :: r ∧ 1 ≤ hN D (hI k D) / 2 ^ k := by
  obtain ⟨_, _, _, h4⟩ := hI_spec hd hk
  have hp : 0 < 2 ^ k := Nat.two_pow_pos k
  unfold halfO
  rw [hOut_step _ _ _ _ (fun h => by omega)]
  exact ⟨_, rfl, (Nat.le_div_iff_mul_le hp).2 (by omega)⟩
theorem ltrim_head {x : Nat} {r : List Nat} (h : x ≠ 0) : (ltrim (x :: r)).getD 0 0 = x := by
  obtain ⟨j, hD, _⟩ := ltrim_pre (x :: r)
  cases hl : ltrim (x :: r) with
  | nil =>
    rw [hl, List.nil_append] at hD
    cases j with
    | zero => cases hD
    | succ j => rw [List.replicate_succ] at hD; exact absurd (List.cons.inj hD).1 h
  | cons y t => rw [hl] at hD; exact (List.cons.inj hD).1.symm
theorem half_ok {D : List Nat} (hd : LOk D) {k : Nat} (hk : k ≤ 59) : LOk (halfD k D) := by
  obtain ⟨r, h1, h2⟩ := halfO_cons hd hk
  refine ltrim_ok ?_ ?_ ?_
  · exact hOut_dig k _ _ _ (hN_hI_lt hd hk) (fun x hx => hd.dig x (List.mem_of_mem_drop hx))
  · rw [h1]; simp only [List.head?_cons, ne_eq, Option.some.injEq]; omega
  · rw [h1]; simp
theorem half_head {D : List Nat} (hd : LOk D) {k : Nat} (hk : k ≤ 59) : (halfD k D).getD 0 0 = hN D (hI k D) / 2 ^ k := by
  obtain ⟨r, h1, h2⟩ := halfO_cons hd hk
  unfold halfD
  rw [h1, ltrim_head (by omega)]
theorem half_V {D : List Nat} (hd : LOk D) {k : Nat} (hk : k ≤ 59) (s : Nat) (dp : Int) (hs : (D.length : Int) + 100 ≤ s + dp) : V s (halfD k D) (halfP k D dp) * 2 ^ k = V s D dp := by
  obtain ⟨i1, i2, _, _⟩ := hI_spec hd hk
  have hlen := halfO_len (k := k) (D := D)
  have hnum := hOut_num k _ _ _ (hFin.start k (hN D (hI k D)) (D.drop (hI k D)))
  rw [hN_rest] at hnum
  have hO : hOut k ((D.drop (hI k D)).length + k + 1) (hN D (hI k D)) (D.drop (hI k D)) = halfO k D := rfl
  rw [hO] at hnum
  unfold halfD
  rw [V_trim s _ _ (by unfold halfP; omega)]
  unfold V halfP
  generalize num 10 (halfO k D) = x at *
  generalize (halfO k D).length = lo at *
  generalize hlr : (D.drop (hI k D)).length = lr at *
  rw [List.length_drop] at hlr
  generalize num 10 D = y at *
  generalize 2 ^ k = c at *
  have h10 : (0 : Nat) < 10 ^ (lr + 1) := Nat.pow_pos (by decide)
  refine Nat.eq_of_mul_eq_mul_right h10 ?_
  rw [show x * 10 ^ ((s : Int) + (dp - (hI k D : Int) + 1) - (lo : Int)).toNat * c * 10 ^ (lr + 1) = x * c * 10 ^ (lr + 1) * 10 ^ ((s : Int) + (dp - (hI k D : Int) + 1) - (lo : Int)).toNat by ac_rfl, hnum]
  rw [Nat.mul_assoc, Nat.mul_assoc, ← Nat.pow_add, ← Nat.pow_add, Nat.mul_assoc, ← Nat.pow_add]
  congr 2
  omega
end Go.Proofs.YtdfbokmjipdolaaGreatDoor
/- Plain law of the light decimal: doubling, shifting, the whole number nearest. -/
namespace Go.Proofs.YtdfbokmjipdolaaGreatDoor
open Go.RowKit

/-- double: the digits from the last on, with the carry n and the digits r still to come -/
def dOut (k : Nat) : Nat → Nat → List Nat → List Nat
  | 0, _, _ => []
  | f + 1, n, r => if r = [] ∧ n = 0 then [] else (n + r.headD 0 * 2 ^ k) % 10 :: dOut k f ((n + r.headD 0 * 2 ^ k) / 10) r.tail
def dFin (k f n : Nat) (r : List Nat) : Prop := (n < 2 ^ k ∧ r.length + 18 ≤ f) ∨ (r = [] ∧ n < 10 ^ f)
theorem dOut_end (k f : Nat) : dOut k f 0 [] = [] := by cases f <;> simp [dOut]
theorem dOut_step (k f n : Nat) (r : List Nat) (h : ¬ (r = [] ∧ n = 0)) : dOut k (f + 1) n r = (n + r.headD 0 * 2 ^ k) % 10 :: dOut k f ((n + r.headD 0 * 2 ^ k) / 10) r.tail := by rw [dOut, if_neg h]
theorem p59 {k : Nat} (hk : k ≤ 59) : 2 ^ k ≤ 10 ^ 18 := Nat.le_trans (Nat.pow_le_pow_right (by decide) hk) (by decide)
theorem dFin.zero {k n : Nat} {r : List Nat} (h : dFin k 0 n r) : r = [] ∧ n = 0 := by
  rcases h with ⟨_, h⟩ | ⟨h, h2⟩
  · omega
  · exact ⟨h, by simpa using h2⟩
theorem dFin.next {k f n : Nat} {r : List Nat} (hk : k ≤ 59) (h : dFin k (f + 1) n r) (hr : ∀ x ∈ r, x < 10) : dFin k f ((n + r.headD 0 * 2 ^ k) / 10) r.tail := by
  have hp := p59 hk
  have nil : ∀ n, n < 10 ^ (f + 1) → dFin k f ((n + ([] : List Nat).headD 0 * 2 ^ k) / 10) ([] : List Nat).tail := fun n hn => by
    right
    refine ⟨rfl, ?_⟩
    rw [Nat.pow_succ] at hn
    simp only [List.headD_nil, Nat.zero_mul, Nat.add_zero]
    omega
  rcases h with ⟨h1, h2⟩ | ⟨rfl, h2⟩
  · cases r with
    | nil =>
      refine nil n (Nat.lt_of_lt_of_le h1 (Nat.le_trans hp ?_))
      simp only [List.length_nil] at h2
      exact Nat.pow_le_pow_right (by decide) (by omega)
    | cons d r =>
      left
      have hd := hr d List.mem_cons_self
      have : d * 2 ^ k ≤ 9 * 2 ^ k := Nat.mul_le_mul_right _ (by omega)
      simp only [List.headD_cons, List.tail_cons, List.length_cons] at *
      omega
  · exact nil n h2
theorem dFin.start (k : Nat) (r : List Nat) : dFin k (r.length + 18) 0 r := Or.inl ⟨Nat.two_pow_pos k, Nat.le_refl _⟩
/-- the number of digits, the last first -/
def nle : List Nat → Nat
  | [] => 0
  | x :: r => x + 10 * nle r
theorem nle_num (r : List Nat) : nle r = num 10 r.reverse := by
  induction r with
  | nil => rfl
  | cons x r ih => rw [nle, List.reverse_cons, num_snoc, ih]; omega
theorem dOut_nle {k : Nat} (hk : k ≤ 59) : ∀ (f n : Nat) (r : List Nat), dFin k f n r → (∀ x ∈ r, x < 10) → nle (dOut k f n r) = n + 2 ^ k * nle r
  | 0, n, r, h, _ => by
    obtain ⟨rfl, rfl⟩ := h.zero
    simp [dOut, nle]
  | f + 1, n, r, h, hr => by
    by_cases he : r = [] ∧ n = 0
    · obtain ⟨rfl, rfl⟩ := he
      rw [dOut_end]; simp [nle]
    · have ih := dOut_nle hk f _ _ (h.next hk hr) (fun x hx => hr x (List.mem_of_mem_tail hx))
      rw [dOut_step k f n r he, nle, ih]
      have h3 := Nat.div_add_mod (n + r.headD 0 * 2 ^ k) 10
      cases r with
      | nil => simp only [List.tail_nil, List.headD_nil, nle, Nat.mul_zero] at *; omega
      | cons d r =>
        simp only [List.tail_cons, List.headD_cons, nle] at *
        have e : 2 ^ k * (d + 10 * nle r) = d * 2 ^ k + 10 * (2 ^ k * nle r) := by rw [Nat.mul_add, Nat.mul_comm (2 ^ k) d, Nat.mul_left_comm (2 ^ k) 10]
        rw [e]
        omega
theorem dOut_dig (k : Nat) : ∀ (f n : Nat) (r : List Nat), ∀ x ∈ dOut k f n r, x < 10
  | 0, _, _ => by simp [dOut]
  | f + 1, n, r => by
    by_cases he : r = [] ∧ n = 0
    · obtain ⟨rfl, rfl⟩ := he
      rw [dOut_end]; simp
    · rw [dOut_step k f n r he]
      intro x hx
      rcases List.mem_cons.1 hx with rfl | hx
      · exact Nat.mod_lt _ (by decide)
      · exact dOut_dig k f _ _ x hx
theorem dOut_len (k : Nat) : ∀ (f n : Nat) (r : List Nat), (dOut k f n r).length ≤ f
  | 0, _, _ => by simp [dOut]
  | f + 1, n, r => by
    rw [dOut]
    split
    · simp
    · have := dOut_len k f ((n + r.headD 0 * 2 ^ k) / 10) r.tail
      simp only [List.length_cons]; omega
theorem dOut_last {k : Nat} (hk : k ≤ 59) : ∀ (f n : Nat) (r : List Nat), dFin k f n r → (∀ x ∈ r, x < 10) → r.getLast? ≠ some 0 → (dOut k f n r).getLast? ≠ some 0
  | 0, n, r, h, _, _ => by simp [dOut]
  | f + 1, n, r, h, hr, hl => by
    by_cases he : r = [] ∧ n = 0
    · obtain ⟨rfl, rfl⟩ := he
      rw [dOut_end]; simp
    · have hl' : r.tail.getLast? ≠ some 0 := by
        cases r with
        | nil => simp
        | cons d r =>
          cases r with
          | nil => simp
          | cons y r => simpa using hl
      have ih := dOut_last hk f _ _ (h.next hk hr) (fun x hx => hr x (List.mem_of_mem_tail hx)) hl'
      rw [dOut_step k f n r he]
      cases hO : dOut k f ((n + r.headD 0 * 2 ^ k) / 10) r.tail with
      | cons y t => rw [hO] at ih; simpa using ih
      | nil =>
        have hz : r.tail = [] ∧ (n + r.headD 0 * 2 ^ k) / 10 = 0 := by
          cases f with
          | zero => exact (h.next hk hr).zero
          | succ f =>
            refine Decidable.byContradiction fun hc => ?_
            rw [dOut_step k f _ _ hc] at hO
            cases hO
        obtain ⟨h1, h2⟩ := hz
        simp only [List.getLast?_singleton, ne_eq, Option.some.injEq]
        intro h3
        have h4 : n + r.headD 0 * 2 ^ k = 0 := by omega
        apply he
        have hp : 0 < 2 ^ k := Nat.two_pow_pos k
        have h5 : r.headD 0 = 0 := by
          rcases Nat.eq_zero_or_pos (r.headD 0) with h | h
          · exact h
          · have := Nat.mul_pos h hp; omega
        cases r with
        | nil => exact ⟨rfl, by omega⟩
        | cons d r =>
          simp only [List.tail_cons] at h1
          subst h1
          simp only [List.headD_cons] at h5
          subst h5
          simp at hl

def dblO (k : Nat) (D : List Nat) : List Nat := (dOut k (D.length + 18) 0 D.reverse).reverse
def dblD (k : Nat) (D : List Nat) : List Nat := ltrim (dblO k D)
def dblP (k : Nat) (D : List Nat) (dp : Int) : Int := dp + (dblO k D).length - D.length
theorem dblO_num {D : List Nat} (hd : LOk D) {k : Nat} (hk : k ≤ 59) : num 10 (dblO k D) = num 10 D * 2 ^ k := by
  have h := dOut_nle hk (D.length + 18) 0 D.reverse (by have := dFin.start k D.reverse; rwa [List.length_reverse] at this) (fun x hx => hd.dig x (List.mem_reverse.1 hx))
  rw [nle_num, nle_num, List.reverse_reverse, Nat.zero_add, Nat.mul_comm] at h
  exact h
theorem dblO_len (k : Nat) (D : List Nat) : (dblO k D).length ≤ D.length + 18 := by
  unfold dblO; rw [List.length_reverse]; exact dOut_len _ _ _ _
theorem dblO_dig (k : Nat) (D : List Nat) : ∀ x ∈ dblO k D, x < 10 := fun x hx => dOut_dig _ _ _ _ x (List.mem_reverse.1 hx)
theorem dblO_lead {D : List Nat} (hd : LOk D) {k : Nat} (hk : k ≤ 59) : (dblO k D).head? ≠ some 0 := by
  unfold dblO
  rw [List.head?_reverse]
  refine dOut_last hk _ _ _ (by have := dFin.start k D.reverse; rwa [List.length_reverse] at this) (fun x hx => hd.dig x (List.mem_reverse.1 hx)) ?_
  rw [List.getLast?_reverse]
  exact hd.lead
theorem num_pos {D : List Nat} (hd : LOk D) : 0 < num 10 D := by
  have h := hN_low hd (D.length - 1)
  have hl : 0 < D.length := List.length_pos_iff.2 hd.ne
  rw [show D.length - 1 + 1 = D.length by omega, hN_take D _ (Nat.le_refl _), List.take_length] at h
  have : 0 < 10 ^ (D.length - 1) := Nat.pow_pos (by decide)
  have := Nat.mul_le_mul_right (10 ^ (D.length - 1)) h.2
  omega
theorem dblO_ne {D : List Nat} (hd : LOk D) {k : Nat} (hk : k ≤ 59) : dblO k D ≠ [] := by
  intro he
  have h := dblO_num hd hk
  rw [he] at h
  have h1 := Nat.mul_pos (num_pos hd) (Nat.two_pow_pos k)
  rw [← h] at h1
  exact absurd h1 (by decide)
theorem dbl_ok {D : List Nat} (hd : LOk D) {k : Nat} (hk : k ≤ 59) : LOk (dblD k D) := ltrim_ok (dblO_dig k D) (dblO_lead hd hk) (dblO_ne hd hk)
theorem dbl_V {D : List Nat} (hd : LOk D) {k : Nat} (hk : k ≤ 59) (s : Nat) (dp : Int) (hs : (D.length : Int) + 100 ≤ s + dp) : V s (dblD k D) (dblP k D dp) = V s D dp * 2 ^ k := by
  unfold dblD
  rw [V_trim s _ _ (by unfold dblP; omega)]
  unfold V dblP
  rw [dblO_num hd hk, Nat.mul_right_comm]
  congr 3
  omega

/-- a light decimal's value lies by its first digit and its point -/
theorem num_head {D : List Nat} (hd : LOk D) : D.getD 0 0 * 10 ^ (D.length - 1) ≤ num 10 D ∧ num 10 D < (D.getD 0 0 + 1) * 10 ^ (D.length - 1) ∧ 1 ≤ D.getD 0 0 ∧ D.getD 0 0 ≤ 9 ∧ 1 ≤ D.length := by
  have hl : 0 < D.length := List.length_pos_iff.2 hd.ne
  have h1 := hN_low hd (D.length - 1)
  have h2 := hN_high hd (D.length - 1)
  rw [show D.length - 1 + 1 = D.length by omega, hN_take D _ (Nat.le_refl _), List.take_length] at h1 h2
  exact ⟨h1.1, h2, h1.2, by have := getD_lt hd.dig 0; omega, hl⟩
theorem V_head {D : List Nat} (hd : LOk D) (s : Nat) (dp : Int) (hs : (D.length : Int) ≤ s + dp) (c : Nat) (hc : (c : Int) = s + dp - 1) : D.getD 0 0 * 10 ^ c ≤ V s D dp ∧ V s D dp < (D.getD 0 0 + 1) * 10 ^ c := by
  obtain ⟨h1, h2, _, _, h5⟩ := num_head hd
  have e : 10 ^ c = 10 ^ (D.length - 1) * 10 ^ ((s : Int) + dp - D.length).toNat := by rw [← Nat.pow_add]; congr 1; omega
  unfold V
  rw [e, ← Nat.mul_assoc, ← Nat.mul_assoc]
  exact ⟨Nat.mul_le_mul_right _ h1, Nat.mul_lt_mul_of_pos_right h2 (Nat.pow_pos (by decide))⟩

/-! ## how halving and doubling move the point and the first digit -/
theorem half_len {D : List Nat} {k : Nat} : (halfD k D).length ≤ D.length + k + 1 := Nat.le_trans (ltrim_len _) halfO_len
theorem dbl_len {D : List Nat} {k : Nat} : (dblD k D).length ≤ D.length + 18 := Nat.le_trans (ltrim_len _) (dblO_len k D)
def m1 (D : List Nat) (dp : Int) : Nat := 10 * dp.toNat + D.getD 0 0
def m2 (D : List Nat) (dp : Int) : Nat := 10 * (-dp).toNat + (9 - D.getD 0 0)
def k1 (dp : Int) : Nat := (min (3 * dp) 59).toNat
def k2 (dp : Int) : Nat := if dp < 0 then (min (-3 * dp) 59).toNat else 1
theorem k1_le (dp : Int) : k1 dp ≤ 59 := by unfold k1; omega
theorem k2_le (dp : Int) : k2 dp ≤ 59 := by unfold k2; split <;> omega
theorem half_step {D : List Nat} (hd : LOk D) (dp : Int) (h0 : 0 < dp) : m1 (halfD (k1 dp) D) (halfP (k1 dp) D dp) < m1 D dp ∧ halfP (k1 dp) D dp ≤ dp ∧ dp - 18 ≤ halfP (k1 dp) D dp := by
  have hk := k1_le dp
  obtain ⟨i1, i2, i3, i4⟩ := hI_spec hd hk
  have hh := half_head hd hk
  have hlt := hN_hI_lt hd hk
  have hok := half_ok hd hk
  obtain ⟨_, _, a1, a2, _⟩ := num_head hd
  obtain ⟨_, _, b1, b2, _⟩ := num_head hok
  refine ⟨?_, by unfold halfP; omega, by unfold halfP; omega⟩
  unfold m1
  by_cases h1 : hI (k1 dp) D = 1
  · rw [h1] at hh i4
    have e : hN D 1 = D.getD 0 0 := by simp [hN]
    rw [e] at hh i4
    have h3 : k1 dp = 3 := by
      have h2 : 2 ^ k1 dp < 2 ^ 4 := by omega
      have := (Nat.pow_lt_pow_iff_right (a := 2) (by decide)).1 h2
      unfold k1 at *
      omega
    rw [hh, h3]
    unfold halfP
    rw [h3] at h1
    rw [h1]
    omega
  · unfold halfP
    omega
theorem pow8 (m : Nat) : 2 ^ (3 * m) ≤ 10 ^ m := by rw [Nat.pow_mul]; exact Nat.pow_le_pow_left (by decide) m
theorem dbl_step {D : List Nat} (hd : LOk D) (dp : Int) (h0 : dp < 0 ∨ (dp = 0 ∧ D.getD 0 0 < 5)) : m2 (dblD (k2 dp) D) (dblP (k2 dp) D dp) < m2 D dp ∧ dp ≤ dblP (k2 dp) D dp ∧ dblP (k2 dp) D dp ≤ 0 := by
  have hk := k2_le dp
  have hnum := dblO_num hd hk
  have hok := dbl_ok hd hk
  have hlead := dblO_lead hd hk
  have hne := dblO_ne hd hk
  obtain ⟨a1, a2, a3, a4, a5⟩ := num_head hd
  -- the head of the doubled digits
  obtain ⟨x, r, hO⟩ : ∃ x r, dblO (k2 dp) D = x :: r := by
    cases h : dblO (k2 dp) D with
    | nil => exact absurd h hne
    | cons x r => exact ⟨x, r, rfl⟩
  have hx : x ≠ 0 := by rw [hO] at hlead; simpa using hlead
  have hh : (dblD (k2 dp) D).getD 0 0 = x := by unfold dblD; rw [hO]; exact ltrim_head hx
  have hx9 : x < 10 := dblO_dig (k2 dp) D x (by rw [hO]; exact List.mem_cons_self)
  have hr : ∀ y ∈ r, y < 10 := fun y hy => dblO_dig (k2 dp) D y (by rw [hO]; exact List.mem_cons_of_mem _ hy)
  have hlen : (dblO (k2 dp) D).length = r.length + 1 := by rw [hO]; rfl
  rw [hO, num_split] at hnum
  have hrl := num_lt 10 (by decide) r hr
  unfold m2 dblP
  rw [hh, hlen]
  obtain ⟨n, hn⟩ : ∃ n, D.length = n + 1 := ⟨D.length - 1, by omega⟩
  rw [hn] at a1 a2 ⊢
  rw [Nat.add_sub_cancel] at a1 a2
  have hpn : 0 < 10 ^ n := Nat.pow_pos (by decide)
  have hpr : 0 < 10 ^ r.length := Nat.pow_pos (by decide)
  have hlo : 10 ^ r.length ≤ num 10 D * 2 ^ k2 dp := by
    rw [← hnum]
    have : 1 * 10 ^ r.length ≤ x * 10 ^ r.length := Nat.mul_le_mul_right _ (by omega)
    omega
  have hhi : num 10 D * 2 ^ k2 dp < (x + 1) * 10 ^ r.length := by rw [← hnum, Nat.add_mul]; omega
  have hhi10 : num 10 D * 2 ^ k2 dp < 10 ^ (r.length + 1) := by
    refine Nat.lt_of_lt_of_le hhi ?_
    rw [Nat.pow_succ, Nat.mul_comm]
    exact Nat.mul_le_mul_left _ (by omega)
  have hge : D.getD 0 0 * 10 ^ n * 2 ^ k2 dp ≤ num 10 D * 2 ^ k2 dp := Nat.mul_le_mul_right _ a1
  have hnn : n ≤ r.length := by
    have h1 : 10 ^ n < 10 ^ (r.length + 1) := by
      refine Nat.lt_of_le_of_lt ?_ hhi10
      refine Nat.le_trans ?_ hge
      rw [Nat.mul_right_comm]
      exact Nat.le_mul_of_pos_left _ (Nat.mul_pos (by omega) (Nat.two_pow_pos _))
    have := (Nat.pow_lt_pow_iff_right (a := 10) (by decide)).1 h1
    omega
  rcases h0 with h0 | ⟨h0, h5⟩
  · obtain ⟨m, hm⟩ : ∃ m : Nat, dp = -(m : Int) := ⟨(-dp).toNat, by omega⟩
    have hk3 : 3 ≤ k2 dp := by unfold k2; rw [if_pos h0]; omega
    have hk3' : k2 dp ≤ 3 * m := by unfold k2; rw [if_pos h0]; omega
    have h8 : 2 ^ 3 ≤ 2 ^ k2 dp := Nat.pow_le_pow_right (by decide) hk3
    have htop : r.length + 1 ≤ n + 1 + m := by
      have h1 : 10 ^ r.length < 10 ^ (n + 1 + m) := by
        refine Nat.lt_of_le_of_lt hlo ?_
        rw [Nat.pow_add]
        refine Nat.mul_lt_mul_of_lt_of_le ?_ (Nat.le_trans (Nat.pow_le_pow_right (by decide) hk3') (pow8 m)) (Nat.pow_pos (by decide))
        refine Nat.lt_of_lt_of_le a2 ?_
        rw [Nat.pow_succ, Nat.mul_comm]
        exact Nat.mul_le_mul_left _ (by omega)
      have := (Nat.pow_lt_pow_iff_right (a := 10) (by decide)).1 h1
      omega
    refine ⟨?_, by omega, by omega⟩
    by_cases hg : n = r.length
    · -- no carry: the first digit was 1
      have h7 : D.getD 0 0 * 10 ^ n * 8 ≤ num 10 D * 2 ^ k2 dp := Nat.le_trans (Nat.mul_le_mul_left _ h8) hge
      rw [← hg] at hhi
      have h9 : D.getD 0 0 * 8 < x + 1 := by
        rw [Nat.mul_right_comm] at h7
        exact Nat.lt_of_mul_lt_mul_right (Nat.lt_of_le_of_lt h7 hhi)
      omega
    · omega
  · have hk1 : k2 dp = 1 := by unfold k2; rw [if_neg (by omega)]
    rw [hk1] at hge hhi hlo
    have htop : r.length ≤ n := by
      have h1 : 10 ^ r.length < 10 ^ (n + 1) := by
        refine Nat.lt_of_le_of_lt hlo ?_
        rw [Nat.pow_succ]
        have : (D.getD 0 0 + 1) * 10 ^ n ≤ 5 * 10 ^ n := Nat.mul_le_mul_right _ (by omega)
        omega
      have := (Nat.pow_lt_pow_iff_right (a := 10) (by decide)).1 h1
      omega
    have hg : r.length = n := by omega
    rw [hg] at hhi
    refine ⟨?_, by omega, by omega⟩
    have h9 : D.getD 0 0 * 2 < x + 1 := by
      rw [Nat.pow_one, Nat.mul_right_comm] at hge
      exact Nat.lt_of_mul_lt_mul_right (Nat.lt_of_le_of_lt hge hhi)
    omega
end Go.Proofs.YtdfbokmjipdolaaGreatDoor
/- Plain law of the light decimal: shifts, the scaling loops, the nearest whole number, the bits. -/
namespace Go.Proofs.YtdfbokmjipdolaaGreatDoor
open Go.RowKit

def lUp : Nat → List Nat → Int → Nat → List Nat × Int
  | 0, D, dp, _ => (D, dp)
  | f + 1, D, dp, k => if 59 < k then lUp f (dblD 59 D) (dblP 59 D dp) (k - 59) else if 0 < k then (dblD k D, dblP k D dp) else (D, dp)
def lDn : Nat → List Nat → Int → Nat → List Nat × Int
  | 0, D, dp, _ => (D, dp)
  | f + 1, D, dp, k => if 59 < k then lDn f (halfD 59 D) (halfP 59 D dp) (k - 59) else if 0 < k then (halfD k D, halfP k D dp) else (D, dp)
def lL1 : Nat → List Nat → Int → Nat → List Nat × Int × Nat
  | 0, D, dp, e => (D, dp, e)
  | f + 1, D, dp, e => if 0 < dp then lL1 f (halfD (k1 dp) D) (halfP (k1 dp) D dp) (e + k1 dp) else (D, dp, e)
def lL2 : Nat → List Nat → Int → Nat → List Nat × Int × Nat
  | 0, D, dp, j => (D, dp, j)
  | f + 1, D, dp, j => if dp < 0 ∨ D.getD 0 0 < 5 then lL2 f (dblD (k2 dp) D) (dblP (k2 dp) D dp) (j + k2 dp) else (D, dp, j)

theorem halfP_ge {D : List Nat} (hd : LOk D) {k : Nat} (hk : k ≤ 59) (dp : Int) : dp - 18 ≤ halfP k D dp ∧ halfP k D dp ≤ dp := by
  obtain ⟨a, b, _⟩ := hI_spec hd hk
  unfold halfP
  omega
theorem dblP_room {D : List Nat} (k : Nat) (dp : Int) : ((dblD k D).length : Int) - dblP k D dp ≤ D.length - dp := by
  have := ltrim_len (dblO k D)
  unfold dblP dblD
  omega
theorem dblP_le {D : List Nat} (k : Nat) (dp : Int) : dblP k D dp ≤ dp + 18 := by
  have := dblO_len k D
  unfold dblP
  omega

structure Up (s : Nat) (D : List Nat) (dp : Int) (k : Nat) (f : Nat) (R : List Nat × Int) : Prop where
  ok : LOk R.1
  val : V s R.1 R.2 = V s D dp * 2 ^ k
  len : R.1.length ≤ D.length + 18 * f
  room : (R.1.length : Int) - R.2 ≤ D.length - dp
  hi : R.2 ≤ dp + 18 * f
theorem lUp_ok (s : Nat) : ∀ (f : Nat) (D : List Nat) (dp : Int) (k : Nat), LOk D → k < f → (D.length : Int) + 100 ≤ s + dp → Up s D dp k f (lUp f D dp k)
  | 0, _, _, _, _, h, _ => by omega
  | f + 1, D, dp, k, hd, hf, hr => by
    rw [lUp]
    have h1 := dblP_room (D := D) 59 dp
    have h2 := dblP_le (D := D) 59 dp
    have h3 := dbl_len (D := D) (k := 59)
    split
    · rename_i hk
      have hv := dbl_V hd (k := 59) (by decide) s dp hr
      obtain ⟨a, b, c, d, e⟩ := lUp_ok s f (dblD 59 D) (dblP 59 D dp) (k - 59) (dbl_ok hd (by decide)) (by omega) (by omega)
      refine ⟨a, ?_, by omega, by omega, by omega⟩
      rw [b, hv, Nat.mul_assoc, ← Nat.pow_add, show 59 + (k - 59) = k by omega]
    · rename_i hk
      have h1 := dblP_room (D := D) k dp
      have h2 := dblP_le (D := D) k dp
      have h3 := dbl_len (D := D) (k := k)
      split
      · exact ⟨dbl_ok hd (by omega), dbl_V hd (by omega) s dp hr, by simp only; omega, h1, by simp only; omega⟩
      · rename_i h0
        have : k = 0 := by omega
        subst this
        exact ⟨hd, by simp, by simp only; omega, by simp only; omega, by simp only; omega⟩
structure Dn (s : Nat) (D : List Nat) (dp : Int) (k : Nat) (f : Nat) (R : List Nat × Int) : Prop where
  ok : LOk R.1
  val : V s R.1 R.2 * 2 ^ k = V s D dp
  len : R.1.length ≤ D.length + 60 * f
  room : (R.1.length : Int) - R.2 ≤ D.length - dp + 80 * f
  hi : R.2 ≤ dp
theorem lDn_ok (s : Nat) : ∀ (f : Nat) (D : List Nat) (dp : Int) (k : Nat), LOk D → k < f → (D.length : Int) + 100 * f ≤ s + dp → Dn s D dp k f (lDn f D dp k)
  | 0, _, _, _, _, h, _ => by omega
  | f + 1, D, dp, k, hd, hf, hr => by
    rw [lDn]
    split
    · rename_i hk
      have h1 := halfP_ge hd (k := 59) (by decide) dp
      have h3 := half_len (D := D) (k := 59)
      have hv := half_V hd (k := 59) (by decide) s dp (by omega)
      obtain ⟨a, b, c, d, e⟩ := lDn_ok s f (halfD 59 D) (halfP 59 D dp) (k - 59) (half_ok hd (by decide)) (by omega) (by omega)
      refine ⟨a, ?_, by omega, by omega, by omega⟩
      rw [← hv, ← b, Nat.mul_assoc, ← Nat.pow_add, show k - 59 + 59 = k by omega]
    · rename_i hk
      have h1 := halfP_ge hd (k := k) (by omega) dp
      have h3 := half_len (D := D) (k := k)
      split
      · exact ⟨half_ok hd (by omega), half_V hd (by omega) s dp (by omega), by simp only; omega, by simp only; omega, h1.2⟩
      · rename_i h0
        have : k = 0 := by omega
        subst this
        exact ⟨hd, by simp, by simp only; omega, by simp only; omega, by simp⟩

structure L1 (s : Nat) (D : List Nat) (dp : Int) (e : Nat) (f : Nat) (R : List Nat × Int × Nat) : Prop where
  ok : LOk R.1
  val : V s R.1 R.2.1 * 2 ^ R.2.2 = V s D dp * 2 ^ e
  len : R.1.length ≤ D.length + 60 * f
  room : (R.1.length : Int) - R.2.1 ≤ D.length - dp + 80 * f
  low : R.2.1 ≤ 0
  hi : min dp (-18) ≤ R.2.1
  ehi : R.2.2 ≤ e + 59 * f
theorem lL1_ok (s : Nat) : ∀ (f : Nat) (D : List Nat) (dp : Int) (e : Nat), LOk D → m1 D dp ≤ f → (D.length : Int) + 100 * f ≤ s + dp → L1 s D dp e f (lL1 f D dp e)
  | 0, D, dp, e, hd, hf, hr => by
    have h := (num_head hd).2.2.1
    unfold m1 at hf
    omega
  | f + 1, D, dp, e, hd, hf, hr => by
    rw [lL1]
    have hk := k1_le dp
    have h1 := halfP_ge hd hk dp
    have h3 := half_len (D := D) (k := k1 dp)
    split
    · rename_i h0
      have hs := half_step hd dp h0
      have hv := half_V hd hk s dp (by omega)
      obtain ⟨a, b, c, d, g, i, j⟩ := lL1_ok s f (halfD (k1 dp) D) (halfP (k1 dp) D dp) (e + k1 dp) (half_ok hd hk) (by omega) (by omega)
      refine ⟨a, ?_, by omega, by omega, g, by omega, by omega⟩
      rw [b, ← hv, Nat.pow_add, Nat.mul_comm (2 ^ e), Nat.mul_assoc]
    · exact ⟨hd, rfl, by simp only; omega, by simp only; omega, by simp only; omega, by simp only; omega, by simp only; omega⟩
structure L2 (s : Nat) (D : List Nat) (dp : Int) (j : Nat) (f : Nat) (R : List Nat × Int × Nat) : Prop where
  ok : LOk R.1
  val : V s R.1 R.2.1 * 2 ^ j = V s D dp * 2 ^ R.2.2
  len : R.1.length ≤ D.length + 18 * f
  room : (R.1.length : Int) - R.2.1 ≤ D.length - dp
  zero : R.2.1 = 0
  head : 5 ≤ R.1.getD 0 0
  jhi : R.2.2 ≤ j + 59 * f
theorem lL2_ok (s : Nat) : ∀ (f : Nat) (D : List Nat) (dp : Int) (j : Nat), LOk D → m2 D dp < f → dp ≤ 0 → (D.length : Int) + 100 ≤ s + dp → L2 s D dp j f (lL2 f D dp j)
  | 0, D, dp, j, hd, hf, h0, hr => by omega
  | f + 1, D, dp, j, hd, hf, h0, hr => by
    rw [lL2]
    have hk := k2_le dp
    have h1 := dblP_room (D := D) (k2 dp) dp
    have h3 := dbl_len (D := D) (k := k2 dp)
    split
    · rename_i hc
      have hs := dbl_step hd dp (by omega)
      have hv := dbl_V hd hk s dp hr
      obtain ⟨a, b, c, d, g, i, l⟩ := lL2_ok s f (dblD (k2 dp) D) (dblP (k2 dp) D dp) (j + k2 dp) (dbl_ok hd hk) (by omega) hs.2.2 (by omega)
      refine ⟨a, ?_, by omega, by omega, g, i, by omega⟩
      rw [Nat.pow_add, ← Nat.mul_assoc, hv, Nat.mul_right_comm (V s D dp)] at b
      exact Nat.eq_of_mul_eq_mul_right (Nat.two_pow_pos (k2 dp)) b
    · exact ⟨hd, rfl, by simp only; omega, by simp only; omega, by simp only; omega, by simp only; omega, by simp only; omega⟩

/-! ## the nearest whole number -/
def nUp (D : List Nat) (n : Nat) : Bool :=
  if D.length ≤ n then false
  else if D.getD n 0 = 5 ∧ n + 1 = D.length then decide (0 < n) && (D.getD (n - 1) 0 % 2 != 0)
  else decide (5 ≤ D.getD n 0)
def whole (D : List Nat) (n : Nat) : Nat := hN D n + if nUp D n then 1 else 0

theorem V_whole (s : Nat) (D : List Nat) (n : Nat) (hs : D.length ≤ s + n) : n ≤ D.length ∧ V s D n = hN D n * 10 ^ s + num 10 (D.drop n) * 10 ^ (s - (D.length - n)) ∨ D.length ≤ n ∧ V s D n = hN D n * 10 ^ s := by
  unfold V
  have h := hN_rest D n
  rw [List.length_drop] at h
  rcases Nat.le_total n D.length with hl | hl
  · left
    refine ⟨hl, ?_⟩
    rw [show n + (D.length - n) - D.length = 0 by omega, Nat.pow_zero, Nat.mul_one] at h
    rw [← h, Nat.add_mul, Nat.mul_assoc, ← Nat.pow_add]
    congr 3 <;> omega
  · right
    refine ⟨hl, ?_⟩
    obtain ⟨j, rfl⟩ : ∃ j, n = D.length + j := ⟨n - D.length, by omega⟩
    rw [hN_all, Nat.mul_assoc, ← Nat.pow_add]
    congr 2
    omega
theorem drop_cons (D : List Nat) (n : Nat) (h : n < D.length) : D.drop n = D.getD n 0 :: D.drop (n + 1) := by
  rw [List.drop_eq_getElem_cons h, List.getD_eq_getElem?_getD, List.getElem?_eq_getElem h, Option.getD_some]

theorem V_tail (s : Nat) {D : List Nat} (hd : ∀ x ∈ D, x < 10) (n : Nat) (hs : D.length ≤ s + n) : hN D n * 10 ^ s ≤ V s D n ∧ V s D n < (hN D n + 1) * 10 ^ s ∧ ((2 * hN D n + 1) * 10 ^ s ≤ 2 * V s D n ↔ n < D.length ∧ 5 ≤ D.getD n 0) := by
  have hp : 0 < 10 ^ s := Nat.pow_pos (by decide)
  rcases Nat.lt_or_ge n D.length with hl | hl
  · rcases V_whole s D n hs with ⟨_, hv⟩ | ⟨h, _⟩
    · have hr : ∀ x ∈ D.drop (n + 1), x < 10 := fun x hx => hd x (List.mem_of_mem_drop hx)
      have hlt := num_lt 10 (by decide) _ hr
      have hd9 := getD_lt hd n
      rw [drop_cons D n hl, num_split] at hv
      generalize hm : (D.drop (n + 1)).length = m at *
      rw [List.length_drop] at hm
      generalize num 10 (D.drop (n + 1)) = x at *
      generalize D.getD n 0 = c at *
      have es : 10 ^ s = 10 * 10 ^ m * 10 ^ (s - (D.length - n)) := by
        rw [← Nat.pow_succ', ← Nat.pow_add]; congr 1; omega
      have hq : 0 < 10 ^ (s - (D.length - n)) := Nat.pow_pos (by decide)
      generalize 10 ^ (s - (D.length - n)) = q at *
      generalize 10 ^ m = y at *
      have e2 : (c * y + x) * q < 10 ^ s := by
        rw [es]
        refine Nat.mul_lt_mul_of_pos_right ?_ hq
        have : c * y ≤ 9 * y := Nat.mul_le_mul_right _ (by omega)
        omega
      refine ⟨by omega, by rw [hv, Nat.add_mul (hN D n)]; omega, ?_⟩
      rw [hv, Nat.add_mul (2 * hN D n), Nat.one_mul, Nat.mul_add, ← Nat.mul_assoc 2 (hN D n)]
      have e3 : 10 ^ s ≤ 2 * ((c * y + x) * q) ↔ 5 ≤ c := by
        rw [es, ← Nat.mul_assoc]
        constructor
        · intro h
          have h1 := Nat.le_of_mul_le_mul_right h hq
          refine Decidable.byContradiction fun hc => ?_
          have : c * y ≤ 4 * y := Nat.mul_le_mul_right _ (by omega)
          omega
        · intro h
          refine Nat.mul_le_mul_right _ ?_
          have : 5 * y ≤ c * y := Nat.mul_le_mul_right _ h
          omega
      rw [← e3]
      constructor
      · intro h; exact ⟨hl, by omega⟩
      · intro h; have := h.2; omega
    · omega
  · rcases V_whole s D n hs with ⟨h, hv⟩ | ⟨_, hv⟩
    · have : n = D.length := by omega
      subst this
      simp only [List.drop_length, num, List.foldl_nil, Nat.zero_mul, Nat.add_zero] at hv
      refine ⟨by omega, by rw [hv, Nat.add_mul]; omega, ?_⟩
      constructor
      · intro h; rw [hv, Nat.add_mul, Nat.mul_assoc] at h; omega
      · intro h; omega
    · refine ⟨by omega, by rw [hv, Nat.add_mul]; omega, ?_⟩
      constructor
      · intro h; rw [hv, Nat.add_mul, Nat.mul_assoc] at h; omega
      · intro h; omega
theorem hN_par (D : List Nat) (n : Nat) (h : 0 < n) : hN D n % 2 = D.getD (n - 1) 0 % 2 := by
  obtain ⟨m, rfl⟩ : ∃ m, n = m + 1 := ⟨n - 1, by omega⟩
  rw [hN, Nat.add_sub_cancel]
  omega
/-- the nearest whole number is K exactly from K - 1/2 on, where K is even and above all others -/
theorem whole_top (s : Nat) {D : List Nat} (hd : ∀ x ∈ D, x < 10) (n : Nat) (hs : D.length ≤ s + n) (K : Nat) (hK : K % 2 = 0) (hK2 : 2 ≤ K) (hlt : V s D n < K * 10 ^ s) : whole D n ≤ K ∧ (whole D n = K ↔ (2 * K - 1) * 10 ^ s ≤ 2 * V s D n) := by
  obtain ⟨h1, h2, h3⟩ := V_tail s hd n hs
  have hp : 0 < 10 ^ s := Nat.pow_pos (by decide)
  have hT : hN D n < K := Nat.lt_of_mul_lt_mul_right (Nat.lt_of_le_of_lt h1 hlt)
  have hw : whole D n ≤ hN D n + 1 := by unfold whole; split <;> omega
  refine ⟨by omega, ?_⟩
  by_cases hT1 : hN D n + 1 = K
  · rw [show 2 * K - 1 = 2 * hN D n + 1 by omega, h3]
    have hn0 : 0 < n := by
      refine Nat.pos_of_ne_zero fun h => ?_
      subst h
      simp [hN] at hT1
      omega
    have hodd : (D.getD (n - 1) 0 % 2 != 0) = true := by
      have := hN_par D n hn0
      simp only [bne_iff_ne, ne_eq]
      omega
    have key : nUp D n = true ↔ n < D.length ∧ 5 ≤ D.getD n 0 := by
      unfold nUp
      rw [hodd, show decide (0 < n) = true by simpa using hn0]
      by_cases hl : D.length ≤ n
      · rw [if_pos hl]; constructor
        · intro h; cases h
        · intro h; omega
      · rw [if_neg hl]
        split
        · rename_i h; constructor
          · intro _; exact ⟨by omega, by omega⟩
          · intro _; rfl
        · constructor
          · intro h; exact ⟨by omega, by simpa using h⟩
          · intro h; simpa using h.2
    rw [← key]
    unfold whole
    cases nUp D n
    · simp; omega
    · simp; omega
  · constructor
    · intro h; omega
    · intro h
      exfalso
      have h4 : (hN D n + 1) * 10 ^ s ≤ (K - 1) * 10 ^ s := Nat.mul_le_mul_right _ (by omega)
      have h5 : (2 * K - 1) * 10 ^ s = 2 * ((K - 1) * 10 ^ s) + 10 ^ s := by
        rw [show 2 * K - 1 = 2 * (K - 1) + 1 by omega, Nat.add_mul, Nat.mul_assoc, Nat.one_mul]
      omega
end Go.Proofs.YtdfbokmjipdolaaGreatDoor
