/- Texts of the proof, joined: F3, F4. -/
import Derived.Test.YtdfbokmjipdolaaGreatDoorQ10
import Derived.Test.YtdfbokmjipdolaaGreatDoorShelf
set_option linter.unusedVariables false
set_option linter.unusedSimpArgs false
/- compareContains, compareStartsWith, compareEndsWith. -/
namespace Go.Proofs.YtdfbokmjipdolaaGreatDoor
open Go.RowKit

theorem enc_len (r : Int) : (Lib.encodeRune r).length ≤ 4 := by
  unfold Lib.encodeRune Lib.encodeRuneZ
  rw [List.length_map]
  split
  · simp
  · split
    · simp
    · split
      · simp
      · split <;> simp
theorem map_len (f : Int → Int) : ∀ (n : Nat) (l : List UInt8), (Lib.mapGoD f n l).length ≤ 4 * n
  | 0, l => by simp [Lib.mapGoD]
  | n + 1, l => by
    unfold Lib.mapGoD
    split
    · simp
    · rw [List.length_append]
      have h := map_len f n (l.drop (Lib.decodeL l).2)
      have : (if 0 ≤ f (Lib.decodeL l).1 then Lib.encodeRune (f (Lib.decodeL l).1) else []).length ≤ 4 := by
        split
        · exact enc_len _
        · simp
      omega
/-- a text in small letters -/
def low (s : ByteArray) : ByteArray := ⟨(Lib.toLowerD s.data.toList).toArray⟩
theorem low_size (s : ByteArray) : (low s).size ≤ 4 * s.size := by
  have h := map_len Lib.toLowerU s.data.toList.length s.data.toList
  have e : (low s).size = (Lib.toLowerD s.data.toList).length := by show (List.toArray _).size = _; exact List.size_toArray
  rw [e]
  have e2 : s.data.toList.length = s.size := Array.length_toList
  rw [e2] at h
  unfold Lib.toLowerD Lib.mapD
  rw [e2]
  exact h
/-- the tables of letters and of UTF-8 in the world -/
structure UG (w : World) : Prop where
  cs : Go.Lib.CaseVar 7 Go.Lib.caseA w
  u8 : Lib.Utf8Tabs 12 13 w
theorem low_any (s : ByteArray) (w : World) (hs : s.size ≤ 4000000) (h : UG w) : Calls Tryz.prog 37 #[.string s] w fun e w' => e = .returned (.string (low s)) ∧ Below w.heap.size w w' :=
  Tryz.strings_ToLower_any s w (by omega) h.cs h.u8
theorem toList_data (s : ByteArray) : s.toList = s.data.toList := by rw [ByteArray.toList_eq]
theorem pre_cB (s t : ByteArray) (h : Lib.hasPrefix s.data.toList t.data.toList = true) : cB s t = true := by
  unfold Lib.hasPrefix at h
  rw [List.isPrefixOf_iff_prefix] at h
  obtain ⟨r, hr⟩ := h
  have hl : t.size ≤ s.size := by
    have := congrArg List.length hr
    rw [List.length_append, Array.length_toList (xs := t.data), Array.length_toList (xs := s.data)] at this
    show t.data.size ≤ s.data.size
    omega
  unfold cB
  refine decide_eq_true ⟨0, Nat.zero_le _, ?_, ?_⟩
  · omega
  · apply toList_inj
    rw [toList_data, toList_data]
    rw [ByteArray.data_extract, Array.toList_extract, ← hr, Nat.zero_add]
    rw [List.extract_eq_take_drop, List.drop_zero, Nat.sub_zero, show t.size = t.data.toList.length from Array.length_toList.symm, List.take_left']
    rfl
theorem suf_cB (s t : ByteArray) (h : Lib.hasSuffix s.data.toList t.data.toList = true) : cB s t = true := by
  unfold Lib.hasSuffix at h
  rw [List.isSuffixOf_iff_suffix] at h
  obtain ⟨r, hr⟩ := h
  have hl : r.length + t.size = s.size := by
    have := congrArg List.length hr
    rw [List.length_append, Array.length_toList (xs := t.data), Array.length_toList (xs := s.data)] at this
    exact this
  unfold cB
  refine decide_eq_true ⟨r.length, by omega, ?_, ?_⟩
  · omega
  · apply toList_inj
    rw [toList_data, toList_data]
    rw [ByteArray.data_extract, Array.toList_extract, ← hr]
    rw [List.extract_eq_take_drop, List.drop_left', show r.length + t.size - r.length = t.data.toList.length from by rw [Array.length_toList]; show _ = t.size; omega, List.take_length]
    rfl
/-- the three comparisons of texts -/
def cnR (s T : ByteArray) (c : Bool) : Bool := if c then cB (low s) (low T) else cB s T
def stR (s T : ByteArray) (c : Bool) : Bool := if c then Lib.hasPrefix (low s).data.toList (low T).data.toList else Lib.hasPrefix s.data.toList T.data.toList
def enR (s T : ByteArray) (c : Bool) : Bool := if c then Lib.hasSuffix (low s).data.toList (low T).data.toList else Lib.hasSuffix s.data.toList T.data.toList
theorem st_cn (s T : ByteArray) (c : Bool) (h : stR s T c = true) : cnR s T c = true := by
  cases c
  · exact pre_cB _ _ h
  · exact pre_cB _ _ h
theorem en_cn (s T : ByteArray) (c : Bool) (h : enR s T c = true) : cnR s T c = true := by
  cases c
  · exact suf_cB _ _ h
  · exact suf_cB _ _ h
theorem UG.later {w w' : World} (h : UG w) (hb : Below w.heap.size w w') (h13 : 13 < w.heap.size) : UG w' :=
  ⟨Go.Lib.CaseVar_below h.cs hb, by
    constructor
    · intro c hc; rw [hb.cell (by show 12 < w.heap.size; omega)]; exact h.u8.1 c hc
    · intro i hi
      rw [hb.cell (by show 13 < w.heap.size; omega), hb.cell (by show 13 < w.heap.size; omega)]
      exact h.u8.2 i hi⟩

set_option maxRecDepth 100000 in
theorem cmp25_any (p v : Value) (T s : ByteArray) (c : Bool) (w : World) (hs : s.size ≤ 400) (hT : T.size ≤ 400) (hv : FVal v T) (hg : UG w) (h13 : 13 < w.heap.size) :
    Calls Tryz.prog 25 #[p, .string s, v, .bool c] w fun e w' => e = .returned (.bool (cnR s T c)) ∧ Below w.heap.size w w' := by
  have H1 := Lib.hid (zzText_any v T w hv)
  have Hg := Lib.hid hg
  clear hg hv
  go_enter Tryz.func25, Tryz.ntmps25
  go_wp2_with fail
  refine H1.out.mono ?_
  rintro e w1 ⟨rfl, hb⟩
  have HB := Lib.hid hb
  clear hb
  cases c
  · have H4 := Lib.hid (zzContains_any s T w1 (by omega) (by omega))
    go_wp2_with fail
    refine H4.out.mono ?_
    rintro e w4 ⟨rfl, rfl⟩
    go_wp2_with fail
    go_ret
    exact ⟨rfl, HB.out⟩
  · have H2 := Lib.hid (low_any s w1 (by omega) (Hg.out.later HB.out h13))
    go_wp2_with fail
    refine H2.out.mono ?_
    rintro e w2 ⟨rfl, hb2⟩
    have HB2 := Lib.hid (HB.out.trans (hb2.mono HB.out.size))
    clear hb2
    have H3 := Lib.hid (low_any T w2 (by omega) (Hg.out.later HB2.out h13))
    go_wp2_with fail
    refine H3.out.mono ?_
    rintro e w3 ⟨rfl, hb3⟩
    have HB3 := Lib.hid (HB2.out.trans (hb3.mono HB2.out.size))
    clear hb3
    have H4 := Lib.hid (zzContains_any (low s) (low T) w3 (by have := low_size s; omega) (by have := low_size T; omega))
    go_wp2_with fail
    refine H4.out.mono ?_
    rintro e w4 ⟨rfl, rfl⟩
    go_wp2_with fail
    go_ret
    exact ⟨rfl, HB3.out⟩

set_option maxRecDepth 100000 in
theorem cmp26_any (p v : Value) (T s : ByteArray) (c : Bool) (w : World) (hs : s.size ≤ 400) (hT : T.size ≤ 400) (hv : FVal v T) (hg : UG w) (h13 : 13 < w.heap.size) :
    Calls Tryz.prog 26 #[p, .string s, v, .bool c] w fun e w' => e = .returned (.bool (stR s T c)) ∧ Below w.heap.size w w' := by
  have H1 := Lib.hid (zzText_any v T w hv)
  have Hg := Lib.hid hg
  clear hg hv
  go_enter Tryz.func26, Tryz.ntmps26
  go_wp2_with fail
  refine H1.out.mono ?_
  rintro e w1 ⟨rfl, hb⟩
  have HB := Lib.hid hb
  clear hb
  cases c
  · have H4 := Lib.hid (Tryz.strings_HasPrefix s T w1)
    go_wp2_with fail
    refine H4.out.mono ?_
    rintro e w4 ⟨rfl, rfl⟩
    go_wp2_with fail
    go_ret
    exact ⟨rfl, HB.out⟩
  · have H2 := Lib.hid (low_any s w1 (by omega) (Hg.out.later HB.out h13))
    go_wp2_with fail
    refine H2.out.mono ?_
    rintro e w2 ⟨rfl, hb2⟩
    have HB2 := Lib.hid (HB.out.trans (hb2.mono HB.out.size))
    clear hb2
    have H3 := Lib.hid (low_any T w2 (by omega) (Hg.out.later HB2.out h13))
    go_wp2_with fail
    refine H3.out.mono ?_
    rintro e w3 ⟨rfl, hb3⟩
    have HB3 := Lib.hid (HB2.out.trans (hb3.mono HB2.out.size))
    clear hb3
    have H4 := Lib.hid (Tryz.strings_HasPrefix (low s) (low T) w3)
    go_wp2_with fail
    refine H4.out.mono ?_
    rintro e w4 ⟨rfl, rfl⟩
    go_wp2_with fail
    go_ret
    exact ⟨rfl, HB3.out⟩

set_option maxRecDepth 100000 in
theorem cmp27_any (p v : Value) (T s : ByteArray) (c : Bool) (w : World) (hs : s.size ≤ 400) (hT : T.size ≤ 400) (hv : FVal v T) (hg : UG w) (h13 : 13 < w.heap.size) :
    Calls Tryz.prog 27 #[p, .string s, v, .bool c] w fun e w' => e = .returned (.bool (enR s T c)) ∧ Below w.heap.size w w' := by
  have H1 := Lib.hid (zzText_any v T w hv)
  have Hg := Lib.hid hg
  clear hg hv
  go_enter Tryz.func27, Tryz.ntmps27
  go_wp2_with fail
  refine H1.out.mono ?_
  rintro e w1 ⟨rfl, hb⟩
  have HB := Lib.hid hb
  clear hb
  cases c
  · have H4 := Lib.hid (Tryz.strings_HasSuffix s T w1 (by omega))
    go_wp2_with fail
    refine H4.out.mono ?_
    rintro e w4 ⟨rfl, rfl⟩
    go_wp2_with fail
    go_ret
    exact ⟨rfl, HB.out⟩
  · have H2 := Lib.hid (low_any s w1 (by omega) (Hg.out.later HB.out h13))
    go_wp2_with fail
    refine H2.out.mono ?_
    rintro e w2 ⟨rfl, hb2⟩
    have HB2 := Lib.hid (HB.out.trans (hb2.mono HB.out.size))
    clear hb2
    have H3 := Lib.hid (low_any T w2 (by omega) (Hg.out.later HB2.out h13))
    go_wp2_with fail
    refine H3.out.mono ?_
    rintro e w3 ⟨rfl, hb3⟩
    have HB3 := Lib.hid (HB2.out.trans (hb3.mono HB2.out.size))
    clear hb3
    have H4 := Lib.hid (Tryz.strings_HasSuffix (low s) (low T) w3 (by have := low_size s; omega))
    go_wp2_with fail
    refine H4.out.mono ?_
    rintro e w4 ⟨rfl, rfl⟩
    go_wp2_with fail
    go_ret
    exact ⟨rfl, HB3.out⟩

end Go.Proofs.YtdfbokmjipdolaaGreatDoor
/- compareEqual and matchesOperator, over what EqualFold and the light ParseFloat answer. -/
namespace Go.Proofs.YtdfbokmjipdolaaGreatDoor
open Go.RowKit

/-- what strings.EqualFold answers, in a world with the tables G -/
structure EC (G : World → Prop) (eqf : ByteArray → ByteArray → Bool) : Prop where
  run : ∀ (s t : ByteArray) (w : World), s.size ≤ 400 → t.size ≤ 400 → G w → Calls Tryz.prog 34 #[.string s, .string t] w fun e w' => e = .returned (.bool (eqf s t)) ∧ Below w.heap.size w w'
  later : ∀ w w', G w → Below w.heap.size w w' → G w'
  ug : ∀ w, G w → UG w
  h13 : ∀ w, G w → 13 < w.heap.size
def eqR (eqf : ByteArray → ByteArray → Bool) (s T : ByteArray) (c : Bool) : Bool := if c then eqf s T else s.toList == T.toList
set_option maxRecDepth 100000 in
theorem eq_any {G : World → Prop} {eqf : ByteArray → ByteArray → Bool} (E : EC G eqf) (p v : Value) (T s : ByteArray) (c : Bool) (w : World) (hs : s.size ≤ 400) (hT : T.size ≤ 400) (hv : FVal v T) (hg : G w) :
    Calls Tryz.prog 19 #[p, .string s, v, .bool c] w fun e w' => e = .returned (.bool (eqR eqf s T c)) ∧ Below w.heap.size w w' := by
  have H1 := Lib.hid (zzText_any v T w hv)
  have Hg := Lib.hid hg
  clear hg hv
  go_enter Tryz.func19, Tryz.ntmps19
  go_wp2_with fail
  refine H1.out.mono ?_
  rintro e w1 ⟨rfl, hb⟩
  have HB := Lib.hid hb
  clear hb
  cases c
  · go_wp2_with fail
    go_ret
    exact ⟨rfl, HB.out⟩
  · have H2 := Lib.hid (E.run s T w1 hs hT (E.later _ _ Hg.out HB.out))
    go_wp2_with fail
    refine H2.out.mono ?_
    rintro e w2 ⟨rfl, hb2⟩
    have HB2 := Lib.hid (HB.out.trans (hb2.mono HB.out.size))
    clear hb2
    go_wp2_with fail
    go_ret
    exact ⟨rfl, HB2.out⟩
/-- what the operator k answers -/
def MRes (lb : List Nat → Nat) (lok : List Nat → Prop) (eqf : ByteArray → ByteArray → Bool) (k : Nat) (s T : ByteArray) (v : Value) (c r : Bool) : Prop :=
  match k with
  | 0 => r = eqR eqf s T c
  | 1 => r = !eqR eqf s T c
  | 2 => NRes lb lok fgt (bsN s) v r
  | 3 => NRes lb lok fge (bsN s) v r
  | 4 => NRes lb lok flt (bsN s) v r
  | 5 => NRes lb lok fle (bsN s) v r
  | 6 => r = cnR s T c
  | 7 => r = !cnR s T c
  | 8 => r = stR s T c
  | 9 => r = enR s T c
  | _ => True

set_option maxRecDepth 100000 in
theorem op0_any {lb : List Nat → Nat} {lok : List Nat → Prop} (H : LC lb lok) {G : World → Prop} {eqf : ByteArray → ByteArray → Bool} (E : EC G eqf) (p v f0 f1 f5 : Value) (T s : ByteArray) (c : Bool) (w : World) (hs : s.size ≤ 400) (hT : T.size ≤ 400) (hv : FVal v T) (hg : G w) :
    Calls Tryz.prog 15 #[p, .string s, .agg #[f0, f1, .int .i64 0, v, .bool c, f5]] w fun e w' => Below w.heap.size w w' ∧ ∃ r, e = .returned (.bool r) ∧ MRes lb lok eqf 0 s T v c r := by
  have hlt := E.h13 _ hg
  have HC := Lib.hid (fun W (HG : Hid (G W)) => eq_any E p v T s c W hs hT hv HG.out)
  have HH := Lib.hid H
  have HL := Lib.hid (fun o => E.later w (w.alloc o) hg ((Below.refl _ _).alloc (Nat.le_refl _) _))
  have HA := Lib.hid (fun o => ((Below.refl w.heap.size w).alloc (Nat.le_refl _) o))
  clear hg
  go_enter Tryz.func15, Tryz.ntmps15
  go_wp2_with fail
  refine (HC.out _ (Lib.hid (HL.out _))).mono ?_
  rintro e w1 ⟨rfl, hb⟩
  have HB := Lib.hid ((HA.out _).trans (hb.mono (HA.out _).size))
  clear hb
  go_wp2_with fail
  go_ret
  exact ⟨HB.out, _, rfl, rfl⟩

set_option maxRecDepth 100000 in
theorem op1_any {lb : List Nat → Nat} {lok : List Nat → Prop} (H : LC lb lok) {G : World → Prop} {eqf : ByteArray → ByteArray → Bool} (E : EC G eqf) (p v f0 f1 f5 : Value) (T s : ByteArray) (c : Bool) (w : World) (hs : s.size ≤ 400) (hT : T.size ≤ 400) (hv : FVal v T) (hg : G w) :
    Calls Tryz.prog 15 #[p, .string s, .agg #[f0, f1, .int .i64 1, v, .bool c, f5]] w fun e w' => Below w.heap.size w w' ∧ ∃ r, e = .returned (.bool r) ∧ MRes lb lok eqf 1 s T v c r := by
  have hlt := E.h13 _ hg
  have HC := Lib.hid (fun W (HG : Hid (G W)) => eq_any E p v T s c W hs hT hv HG.out)
  have HH := Lib.hid H
  have HL := Lib.hid (fun o => E.later w (w.alloc o) hg ((Below.refl _ _).alloc (Nat.le_refl _) _))
  have HA := Lib.hid (fun o => ((Below.refl w.heap.size w).alloc (Nat.le_refl _) o))
  clear hg
  go_enter Tryz.func15, Tryz.ntmps15
  go_wp2_with fail
  refine (HC.out _ (Lib.hid (HL.out _))).mono ?_
  rintro e w1 ⟨rfl, hb⟩
  have HB := Lib.hid ((HA.out _).trans (hb.mono (HA.out _).size))
  clear hb
  go_wp2_with fail
  go_ret
  exact ⟨HB.out, _, rfl, rfl⟩

set_option maxRecDepth 100000 in
theorem op2_any {lb : List Nat → Nat} {lok : List Nat → Prop} (H : LC lb lok) {G : World → Prop} {eqf : ByteArray → ByteArray → Bool} (E : EC G eqf) (p v f0 f1 f5 : Value) (T s : ByteArray) (c : Bool) (w : World) (hs : s.size ≤ 400) (hT : T.size ≤ 400) (hv : FVal v T) (hg : G w) :
    Calls Tryz.prog 15 #[p, .string s, .agg #[f0, f1, .int .i64 2, v, .bool c, f5]] w fun e w' => Below w.heap.size w w' ∧ ∃ r, e = .returned (.bool r) ∧ MRes lb lok eqf 2 s T v c r := by
  have hlt := E.h13 _ hg
  have HC := Lib.hid (fun W (HG : Hid (G W)) => num21_any lb lok H p v T s W hs hT hv)
  have HH := Lib.hid H
  have HL := Lib.hid (fun o => E.later w (w.alloc o) hg ((Below.refl _ _).alloc (Nat.le_refl _) _))
  have HA := Lib.hid (fun o => ((Below.refl w.heap.size w).alloc (Nat.le_refl _) o))
  clear hg
  go_enter Tryz.func15, Tryz.ntmps15
  go_wp2_with fail
  refine (HC.out _ (Lib.hid (HL.out _))).mono ?_
  rintro e w1 ⟨hb, r, rfl, hr⟩
  have HB := Lib.hid ((HA.out _).trans (hb.mono (HA.out _).size))
  clear hb
  go_wp2_with fail
  go_ret
  exact ⟨HB.out, _, rfl, hr⟩

set_option maxRecDepth 100000 in
theorem op3_any {lb : List Nat → Nat} {lok : List Nat → Prop} (H : LC lb lok) {G : World → Prop} {eqf : ByteArray → ByteArray → Bool} (E : EC G eqf) (p v f0 f1 f5 : Value) (T s : ByteArray) (c : Bool) (w : World) (hs : s.size ≤ 400) (hT : T.size ≤ 400) (hv : FVal v T) (hg : G w) :
    Calls Tryz.prog 15 #[p, .string s, .agg #[f0, f1, .int .i64 3, v, .bool c, f5]] w fun e w' => Below w.heap.size w w' ∧ ∃ r, e = .returned (.bool r) ∧ MRes lb lok eqf 3 s T v c r := by
  have hlt := E.h13 _ hg
  have HC := Lib.hid (fun W (HG : Hid (G W)) => num22_any lb lok H p v T s W hs hT hv)
  have HH := Lib.hid H
  have HL := Lib.hid (fun o => E.later w (w.alloc o) hg ((Below.refl _ _).alloc (Nat.le_refl _) _))
  have HA := Lib.hid (fun o => ((Below.refl w.heap.size w).alloc (Nat.le_refl _) o))
  clear hg
  go_enter Tryz.func15, Tryz.ntmps15
  go_wp2_with fail
  refine (HC.out _ (Lib.hid (HL.out _))).mono ?_
  rintro e w1 ⟨hb, r, rfl, hr⟩
  have HB := Lib.hid ((HA.out _).trans (hb.mono (HA.out _).size))
  clear hb
  go_wp2_with fail
  go_ret
  exact ⟨HB.out, _, rfl, hr⟩

set_option maxRecDepth 100000 in
theorem op4_any {lb : List Nat → Nat} {lok : List Nat → Prop} (H : LC lb lok) {G : World → Prop} {eqf : ByteArray → ByteArray → Bool} (E : EC G eqf) (p v f0 f1 f5 : Value) (T s : ByteArray) (c : Bool) (w : World) (hs : s.size ≤ 400) (hT : T.size ≤ 400) (hv : FVal v T) (hg : G w) :
    Calls Tryz.prog 15 #[p, .string s, .agg #[f0, f1, .int .i64 4, v, .bool c, f5]] w fun e w' => Below w.heap.size w w' ∧ ∃ r, e = .returned (.bool r) ∧ MRes lb lok eqf 4 s T v c r := by
  have hlt := E.h13 _ hg
  have HC := Lib.hid (fun W (HG : Hid (G W)) => num23_any lb lok H p v T s W hs hT hv)
  have HH := Lib.hid H
  have HL := Lib.hid (fun o => E.later w (w.alloc o) hg ((Below.refl _ _).alloc (Nat.le_refl _) _))
  have HA := Lib.hid (fun o => ((Below.refl w.heap.size w).alloc (Nat.le_refl _) o))
  clear hg
  go_enter Tryz.func15, Tryz.ntmps15
  go_wp2_with fail
  refine (HC.out _ (Lib.hid (HL.out _))).mono ?_
  rintro e w1 ⟨hb, r, rfl, hr⟩
  have HB := Lib.hid ((HA.out _).trans (hb.mono (HA.out _).size))
  clear hb
  go_wp2_with fail
  go_ret
  exact ⟨HB.out, _, rfl, hr⟩

set_option maxRecDepth 100000 in
theorem op5_any {lb : List Nat → Nat} {lok : List Nat → Prop} (H : LC lb lok) {G : World → Prop} {eqf : ByteArray → ByteArray → Bool} (E : EC G eqf) (p v f0 f1 f5 : Value) (T s : ByteArray) (c : Bool) (w : World) (hs : s.size ≤ 400) (hT : T.size ≤ 400) (hv : FVal v T) (hg : G w) :
    Calls Tryz.prog 15 #[p, .string s, .agg #[f0, f1, .int .i64 5, v, .bool c, f5]] w fun e w' => Below w.heap.size w w' ∧ ∃ r, e = .returned (.bool r) ∧ MRes lb lok eqf 5 s T v c r := by
  have hlt := E.h13 _ hg
  have HC := Lib.hid (fun W (HG : Hid (G W)) => num24_any lb lok H p v T s W hs hT hv)
  have HH := Lib.hid H
  have HL := Lib.hid (fun o => E.later w (w.alloc o) hg ((Below.refl _ _).alloc (Nat.le_refl _) _))
  have HA := Lib.hid (fun o => ((Below.refl w.heap.size w).alloc (Nat.le_refl _) o))
  clear hg
  go_enter Tryz.func15, Tryz.ntmps15
  go_wp2_with fail
  refine (HC.out _ (Lib.hid (HL.out _))).mono ?_
  rintro e w1 ⟨hb, r, rfl, hr⟩
  have HB := Lib.hid ((HA.out _).trans (hb.mono (HA.out _).size))
  clear hb
  go_wp2_with fail
  go_ret
  exact ⟨HB.out, _, rfl, hr⟩

set_option maxRecDepth 100000 in
theorem op6_any {lb : List Nat → Nat} {lok : List Nat → Prop} (H : LC lb lok) {G : World → Prop} {eqf : ByteArray → ByteArray → Bool} (E : EC G eqf) (p v f0 f1 f5 : Value) (T s : ByteArray) (c : Bool) (w : World) (hs : s.size ≤ 400) (hT : T.size ≤ 400) (hv : FVal v T) (hg : G w) :
    Calls Tryz.prog 15 #[p, .string s, .agg #[f0, f1, .int .i64 6, v, .bool c, f5]] w fun e w' => Below w.heap.size w w' ∧ ∃ r, e = .returned (.bool r) ∧ MRes lb lok eqf 6 s T v c r := by
  have hlt := E.h13 _ hg
  have HC := Lib.hid (fun W (HG : Hid (G W)) => cmp25_any p v T s c W hs hT hv (E.ug _ HG.out) (E.h13 _ HG.out))
  have HH := Lib.hid H
  have HL := Lib.hid (fun o => E.later w (w.alloc o) hg ((Below.refl _ _).alloc (Nat.le_refl _) _))
  have HA := Lib.hid (fun o => ((Below.refl w.heap.size w).alloc (Nat.le_refl _) o))
  clear hg
  go_enter Tryz.func15, Tryz.ntmps15
  go_wp2_with fail
  refine (HC.out _ (Lib.hid (HL.out _))).mono ?_
  rintro e w1 ⟨rfl, hb⟩
  have HB := Lib.hid ((HA.out _).trans (hb.mono (HA.out _).size))
  clear hb
  go_wp2_with fail
  go_ret
  exact ⟨HB.out, _, rfl, rfl⟩

set_option maxRecDepth 100000 in
theorem op7_any {lb : List Nat → Nat} {lok : List Nat → Prop} (H : LC lb lok) {G : World → Prop} {eqf : ByteArray → ByteArray → Bool} (E : EC G eqf) (p v f0 f1 f5 : Value) (T s : ByteArray) (c : Bool) (w : World) (hs : s.size ≤ 400) (hT : T.size ≤ 400) (hv : FVal v T) (hg : G w) :
    Calls Tryz.prog 15 #[p, .string s, .agg #[f0, f1, .int .i64 7, v, .bool c, f5]] w fun e w' => Below w.heap.size w w' ∧ ∃ r, e = .returned (.bool r) ∧ MRes lb lok eqf 7 s T v c r := by
  have hlt := E.h13 _ hg
  have HC := Lib.hid (fun W (HG : Hid (G W)) => cmp25_any p v T s c W hs hT hv (E.ug _ HG.out) (E.h13 _ HG.out))
  have HH := Lib.hid H
  have HL := Lib.hid (fun o => E.later w (w.alloc o) hg ((Below.refl _ _).alloc (Nat.le_refl _) _))
  have HA := Lib.hid (fun o => ((Below.refl w.heap.size w).alloc (Nat.le_refl _) o))
  clear hg
  go_enter Tryz.func15, Tryz.ntmps15
  go_wp2_with fail
  refine (HC.out _ (Lib.hid (HL.out _))).mono ?_
  rintro e w1 ⟨rfl, hb⟩
  have HB := Lib.hid ((HA.out _).trans (hb.mono (HA.out _).size))
  clear hb
  go_wp2_with fail
  go_ret
  exact ⟨HB.out, _, rfl, rfl⟩

set_option maxRecDepth 100000 in
theorem op8_any {lb : List Nat → Nat} {lok : List Nat → Prop} (H : LC lb lok) {G : World → Prop} {eqf : ByteArray → ByteArray → Bool} (E : EC G eqf) (p v f0 f1 f5 : Value) (T s : ByteArray) (c : Bool) (w : World) (hs : s.size ≤ 400) (hT : T.size ≤ 400) (hv : FVal v T) (hg : G w) :
    Calls Tryz.prog 15 #[p, .string s, .agg #[f0, f1, .int .i64 8, v, .bool c, f5]] w fun e w' => Below w.heap.size w w' ∧ ∃ r, e = .returned (.bool r) ∧ MRes lb lok eqf 8 s T v c r := by
  have hlt := E.h13 _ hg
  have HC := Lib.hid (fun W (HG : Hid (G W)) => cmp26_any p v T s c W hs hT hv (E.ug _ HG.out) (E.h13 _ HG.out))
  have HH := Lib.hid H
  have HL := Lib.hid (fun o => E.later w (w.alloc o) hg ((Below.refl _ _).alloc (Nat.le_refl _) _))
  have HA := Lib.hid (fun o => ((Below.refl w.heap.size w).alloc (Nat.le_refl _) o))
  clear hg
  go_enter Tryz.func15, Tryz.ntmps15
  go_wp2_with fail
  refine (HC.out _ (Lib.hid (HL.out _))).mono ?_
  rintro e w1 ⟨rfl, hb⟩
  have HB := Lib.hid ((HA.out _).trans (hb.mono (HA.out _).size))
  clear hb
  go_wp2_with fail
  go_ret
  exact ⟨HB.out, _, rfl, rfl⟩

set_option maxRecDepth 100000 in
theorem op9_any {lb : List Nat → Nat} {lok : List Nat → Prop} (H : LC lb lok) {G : World → Prop} {eqf : ByteArray → ByteArray → Bool} (E : EC G eqf) (p v f0 f1 f5 : Value) (T s : ByteArray) (c : Bool) (w : World) (hs : s.size ≤ 400) (hT : T.size ≤ 400) (hv : FVal v T) (hg : G w) :
    Calls Tryz.prog 15 #[p, .string s, .agg #[f0, f1, .int .i64 9, v, .bool c, f5]] w fun e w' => Below w.heap.size w w' ∧ ∃ r, e = .returned (.bool r) ∧ MRes lb lok eqf 9 s T v c r := by
  have hlt := E.h13 _ hg
  have HC := Lib.hid (fun W (HG : Hid (G W)) => cmp27_any p v T s c W hs hT hv (E.ug _ HG.out) (E.h13 _ HG.out))
  have HH := Lib.hid H
  have HL := Lib.hid (fun o => E.later w (w.alloc o) hg ((Below.refl _ _).alloc (Nat.le_refl _) _))
  have HA := Lib.hid (fun o => ((Below.refl w.heap.size w).alloc (Nat.le_refl _) o))
  clear hg
  go_enter Tryz.func15, Tryz.ntmps15
  go_wp2_with fail
  refine (HC.out _ (Lib.hid (HL.out _))).mono ?_
  rintro e w1 ⟨rfl, hb⟩
  have HB := Lib.hid ((HA.out _).trans (hb.mono (HA.out _).size))
  clear hb
  go_wp2_with fail
  go_ret
  exact ⟨HB.out, _, rfl, rfl⟩

end Go.Proofs.YtdfbokmjipdolaaGreatDoor
