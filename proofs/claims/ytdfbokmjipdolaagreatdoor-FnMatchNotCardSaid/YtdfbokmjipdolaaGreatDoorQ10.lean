/- Texts of the proof, joined: E7, E8, F1, F2. -/
import Derived.Test.YtdfbokmjipdolaaGreatDoorQ9
import Derived.ShutString
import Derived.Test.YtdfbokmjipdolaaGreatDoorQ8
set_option linter.unusedVariables false
set_option linter.unusedSimpArgs false
/- The light parser's small functions: form, fail, Itoa. -/
namespace Go.Proofs.YtdfbokmjipdolaaGreatDoor
open Go.RowKit

theorem fail_any (fn s : ByteArray) (v : Value) (w : World) : Calls Tryz.prog 55 #[.string fn, .string s, v] w fun e w' => (∃ t u, e = .returned (.iface t u)) ∧ Below w.heap.size w w' := by
  go_enter Tryz.func55, Tryz.ntmps55
  go_wp2_with fail
  go_ret
  exact ⟨⟨_, _, rfl⟩, (Below.refl _ _).alloc (Nat.le_refl _) _⟩
theorem formOf_any (w : World) : Calls Tryz.prog 51 #[.int .i64 64] w fun e w' => e = .returned (.agg #[.int .i64 52, .int .i64 11, .int .i64 (-1023)]) ∧ Below w.heap.size w w' := by
  go_enter Tryz.func51, Tryz.ntmps51
  go_wp2_with fail
  refine bodyPost_ret (v := .agg #[.int .i64 52, .int .i64 11, .int .i64 (-1023)]) (by simp [results, Tryz.results51, go_sem]) rfl ⟨rfl, ?_⟩
  exact (Below.refl _ _).alloc (Nat.le_refl _) _
theorem float_any (b : Nat) (w : World) : Calls Tryz.prog 52 #[.agg #[.int .i64 52, .int .i64 11, .int .i64 (-1023)], .int .u64 b] w fun e w' => e = .returned (.float .f64 b) ∧ Below w.heap.size w w' := by
  go_enter Tryz.func52, Tryz.ntmps52
  go_wp2_with fail
  go_ret
  exact ⟨by simp, (Below.refl _ _).alloc (Nat.le_refl _) _⟩

/-- an int's decimal text -/
def itoaN (n : Int) : List Nat := if n < 0 then 45 :: (dd (n.natAbs)).map (48 + ·) else (dd n.toNat).map (48 + ·)
theorem bsN_inj {s t : ByteArray} (h : bsN s = bsN t) : s = t := by
  have h1 : s.data.toList = t.data.toList := by
    unfold bsN at h
    have hinj : Function.Injective UInt8.toNat := fun a b hab => UInt8.toNat_inj.1 hab
    exact (List.map_inj_right (fun a b hab => UInt8.toNat_inj.1 hab)).1 h
  cases s; cases t
  congr 1
  exact Array.toList_inj.1 h1
theorem wrap_u64_neg (n : Int) (h0 : -9223372036854775808 ≤ n) (h1 : n < 0) : IntKind.u64.wrap n = n + 18446744073709551616 ∧ IntKind.u64.wrap (-(n + 18446744073709551616)) = (n.natAbs : Int) := by
  constructor
  · simp [IntKind.wrap, IntKind.bits, IntKind.signed]; omega
  · simp [IntKind.wrap, IntKind.bits, IntKind.signed]; omega
theorem fmtInt_any (n : Int) (w : World) (h0 : -9223372036854775808 ≤ n) (h1 : n ≤ 9223372036854775807) : Calls Tryz.prog 80 #[.int .i64 n, .int .i64 10] w fun e w' => (∃ t : ByteArray, e = .returned (.string t) ∧ bsN t = itoaN n) ∧ Below w.heap.size w w' := by
  by_cases hn : n < 0
  · obtain ⟨e1, e2⟩ := wrap_u64_neg n h0 hn
    have Hc := Lib.hid (fun w => fmtUint_any n.natAbs w (by omega))
    obtain ⟨m, hm⟩ : ∃ m, m = n.natAbs := ⟨_, rfl⟩
    rw [← hm] at e2 Hc
    have Hi := Lib.hid (show itoaN n = 45 :: (dd m).map (48 + ·) by unfold itoaN; rw [if_pos hn, hm])
    have bm : m < 18446744073709551616 := by omega
    clear hm
    go_enter Tryz.func80, Tryz.ntmps80
    go_wp2_with fail
    first
      | refine (Hc.out _).mono ?_
      | (rw [e1, e2]; refine (Hc.out _).mono ?_)
      | (rw [e2]; refine (Hc.out _).mono ?_)
    rintro e w' ⟨t, rfl, ht, hB⟩
    have Ht := Lib.hid ht
    have HB := Lib.hid hB
    clear ht hB
    have ht20 : t.size ≤ 20 := by
      have h := congrArg List.length Ht.out
      rw [bsN_len, List.length_map] at h
      have := (ddF_len 19 m).1
      have e : (dd m).length = (ddF 19 m).length := rfl
      omega
    go_wp2_with fail
    go_ret
    refine ⟨⟨_, rfl, ?_⟩, HB.out⟩
    rw [Hi.out, ← Ht.out]
    unfold bsN
    rw [ByteArray.data_append]
    simp
  · have Hc := Lib.hid (fun w => fmtUint_any n.toNat w (by omega))
    obtain ⟨m, rfl⟩ : ∃ m : Nat, n = m := ⟨n.toNat, by omega⟩
    have Hi := Lib.hid (show itoaN (m : Int) = (dd m).map (48 + ·) by unfold itoaN; rw [if_neg hn]; simp)
    rw [Int.toNat_natCast] at Hc
    clear hn
    go_enter Tryz.func80, Tryz.ntmps80
    go_wp2_with fail
    refine (Hc.out _).mono ?_
    rintro e w' ⟨t, rfl, ht, hB⟩
    have Ht := Lib.hid ht
    have HB := Lib.hid hB
    clear ht hB
    go_wp2_with fail
    go_ret
    exact ⟨⟨t, rfl, by rw [Hi.out]; exact Ht.out⟩, HB.out⟩
theorem itoa_any (n : Int) (w : World) (h0 : -9223372036854775808 ≤ n) (h1 : n ≤ 9223372036854775807) : Calls Tryz.prog 45 #[.int .i64 n] w fun e w' => (∃ t : ByteArray, e = .returned (.string t) ∧ bsN t = itoaN n) ∧ Below w.heap.size w w' := by
  have Hc := Lib.hid (fmtInt_any n w h0 h1)
  go_enter Tryz.func45, Tryz.ntmps45
  go_wp2_with fail
  refine Hc.out.mono ?_
  rintro e w' ⟨⟨t, rfl, ht⟩, hB⟩
  have Ht := Lib.hid ht
  have HB := Lib.hid hB
  clear ht hB
  go_wp2_with fail
  go_ret
  exact ⟨⟨t, rfl, Ht.out⟩, HB.out⟩
end Go.Proofs.YtdfbokmjipdolaaGreatDoor
/- The table's small functions: the filter's text, contains, starts, ends. -/
namespace Go.Proofs.YtdfbokmjipdolaaGreatDoor
open Go.RowKit

/-- a filter's value and its text -/
def FVal (v : Value) (T : ByteArray) : Prop := v = .iface 9 (.string T) ∨ ∃ N : Int, -9223372036854775808 ≤ N ∧ N ≤ 9223372036854775807 ∧ v = .iface 3 (.int .i64 N) ∧ bsN T = itoaN N
theorem ta_s9 (T : ByteArray) (w : World) : (Instr.typeAssert (.iface 9 (.string T)) 20 9 true).run Tryz.prog w = .ok (.tuple #[.string T, .bool true]) w := by kernel_rfl
theorem ta_s3 (T : ByteArray) (w : World) : (Instr.typeAssert (.iface 9 (.string T)) 20 3 true).run Tryz.prog w = .ok (.tuple #[.int .i64 0, .bool false]) w := by kernel_rfl
theorem ta_s2 (T : ByteArray) (w : World) : (Instr.typeAssert (.iface 9 (.string T)) 20 2 true).run Tryz.prog w = .ok (.tuple #[.int .i64 0, .bool false]) w := by kernel_rfl
theorem ta_s29 (T : ByteArray) (w : World) : (Instr.typeAssert (.iface 9 (.string T)) 20 29 true).run Tryz.prog w = .ok (.tuple #[.float .f64 0, .bool false]) w := by kernel_rfl
theorem ta_s85 (T : ByteArray) (w : World) : (Instr.typeAssert (.iface 9 (.string T)) 20 85 true).run Tryz.prog w = .ok (.tuple #[.float .f32 0, .bool false]) w := by kernel_rfl
theorem ta_i9 (N : Int) (w : World) : (Instr.typeAssert (.iface 3 (.int .i64 N)) 20 9 true).run Tryz.prog w = .ok (.tuple #[.string ByteArray.empty, .bool false]) w := by kernel_rfl
theorem ta_i3 (N : Int) (w : World) : (Instr.typeAssert (.iface 3 (.int .i64 N)) 20 3 true).run Tryz.prog w = .ok (.tuple #[.int .i64 N, .bool true]) w := by kernel_rfl
set_option maxRecDepth 100000 in
theorem zzText_any (v : Value) (T : ByteArray) (w : World) (h : FVal v T) : Calls Tryz.prog 33 #[v] w fun e w' => e = .returned (.string T) ∧ Below w.heap.size w w' := by
  rcases h with rfl | ⟨N, h0, h1, rfl, hT⟩
  · have q := ta_s9 T
    go_enter Tryz.func33, Tryz.ntmps33
    go_wp2_with fail
    go_ret
    exact ⟨rfl, Below.refl _ _⟩
  · have Hc := Lib.hid (itoa_any N w h0 h1)
    have HT := Lib.hid hT
    clear hT
    have q := ta_i9 N
    have q2 := ta_i3 N
    go_enter Tryz.func33, Tryz.ntmps33
    go_wp2_with fail
    refine Hc.out.mono ?_
    rintro e w' ⟨⟨t, rfl, ht⟩, hB⟩
    have e : t = T := bsN_inj (by rw [ht, HT.out])
    subst e
    have HB := Lib.hid hB
    clear hB ht
    go_wp2_with fail
    go_ret
    exact ⟨rfl, HB.out⟩

theorem toList_inj {s t : ByteArray} (h : s.toList = t.toList) : s = t := by
  rw [ByteArray.toList_eq, ByteArray.toList_eq] at h
  cases s; cases t
  congr 1
  exact Array.toList_inj.1 h
/-- t stands in s at i -/
def atB (s t : ByteArray) (i : Nat) : Prop := i + t.size ≤ s.size ∧ s.extract i (i + t.size) = t
instance (s t : ByteArray) (i : Nat) : Decidable (atB s t i) := by unfold atB; exact inferInstance
/-- t stands in s -/
def cB (s t : ByteArray) : Bool := decide (∃ i, i ≤ s.size ∧ atB s t i)
def IxPost (s t : ByteArray) (w : World) (e : Ending) (w' : World) : Prop := w = w' ∧ ∃ n : Int, e = .returned (.int .i64 n) ∧ ((0 ≤ n ∧ cB s t = true) ∨ (n = -1 ∧ cB s t = false))
set_option maxRecDepth 100000 in
theorem zzIndex_any (s t : ByteArray) (w : World) (hs : s.size ≤ 4000000) (ht : t.size ≤ 4000000) : Calls Tryz.prog 57 #[.string s, .string t] w (IxPost s t w) := by
  go_enter Tryz.func57, Tryz.ntmps57
  go_wp2_with fail
  go_loopg [5] (s.size + 1) (fun g s5 wx => ∃ i : Nat, g = s.size + 1 - i ∧ i ≤ s.size + 1 ∧ s5 = .int .i64 i ∧ Hid (∀ j, j < i → ¬ atB s t j) ∧ wx = w)
  case atStart => exact ⟨0, rfl, Nat.zero_le _, rfl, Lib.hid (fun j hj => absurd hj (Nat.not_lt_zero _)), rfl⟩
  case round =>
    obtain ⟨i, hg, hi, rfl, HR, rfl⟩ := hrel
    have Hg := Lib.hid hg
    clear hg
    by_cases hle : i + t.size ≤ s.size
    · by_cases heq : s.extract i (i + t.size) = t
      · have Hc := Lib.hid (show cB s t = true from decide_eq_true ⟨i, by omega, hle, heq⟩)
        have q : ((s.extract i (i + t.size)).toList == t.toList) = true := by rw [beq_iff_eq, heq]
        have Hq := Lib.hid heq
        clear heq
        go_wp2_with fail
        go_ret
        exact ⟨rfl, _, rfl, Or.inl ⟨by omega, Hc.out⟩⟩
      · have q : ((s.extract i (i + t.size)).toList == t.toList) = false := by rw [beq_eq_false_iff_ne]; exact fun h => heq (toList_inj h)
        have HR2 := Lib.hid (show ∀ j, j < i + 1 → ¬ atB s t j by
          intro j hj
          by_cases h : j < i
          · exact HR.out j h
          · have : j = i := by omega
            subst this
            exact fun h => heq h.2)
        clear heq
        go_wp2_with fail
        go_roundg (s.size + 1 - (i + 1))
        case measure => have := Hg.out; omega
        case rel => exact ⟨i + 1, rfl, by omega, by go_num, HR2, rfl⟩
    · have Hc := Lib.hid (show cB s t = false from decide_eq_false (by
        rintro ⟨j, hj, ha⟩
        by_cases h : j < i
        · exact HR.out j h ha
        · have := ha.1; omega))
      have hgt : s.size < i + t.size := by omega
      go_wp2_with fail
      go_ret
      exact ⟨rfl, _, rfl, Or.inr ⟨rfl, Hc.out⟩⟩
theorem zzContains_any (s t : ByteArray) (w : World) (hs : s.size ≤ 4000000) (ht : t.size ≤ 4000000) : Calls Tryz.prog 36 #[.string s, .string t] w fun e w' => e = .returned (.bool (cB s t)) ∧ w = w' := by
  have Hc := Lib.hid (zzIndex_any s t w hs ht)
  go_enter Tryz.func36, Tryz.ntmps36
  go_wp2_with fail
  refine Hc.out.mono ?_
  rintro e w' ⟨rfl, n, rfl, h⟩
  rcases h with ⟨h0, h⟩ | ⟨h0, h⟩
  · have H := Lib.hid h
    clear h
    go_wp2_with fail
    go_ret
    exact ⟨by rw [H.out]; first | rfl | simp, rfl⟩
  · have H := Lib.hid h
    subst h0
    clear h
    go_wp2_with fail
    go_ret
    exact ⟨by rw [H.out]; rfl, rfl⟩
end Go.Proofs.YtdfbokmjipdolaaGreatDoor
/- The table's number comparisons, over what the light ParseFloat answers. -/
namespace Go.Proofs.YtdfbokmjipdolaaGreatDoor
open Go.RowKit

def fgt (x y : Nat) : Bool := Ieee.double.order x y == some .gt
def flt (x y : Nat) : Bool := Ieee.double.order x y == some .lt
def fge (x y : Nat) : Bool := Ieee.double.order x y == some .gt || Ieee.double.order x y == some .eq
def fle (x y : Nat) : Bool := Ieee.double.order x y == some .lt || Ieee.double.order x y == some .eq
/-- what the light ParseFloat answers: bits, and an error or none -/
def LightPost (lb : List Nat → Nat) (lok : List Nat → Prop) (l : List Nat) (w : World) (e : Ending) (w' : World) : Prop :=
  Below w.heap.size w w' ∧ ∃ v, e = .returned (.tuple #[.float .f64 (lb l), v]) ∧ ((v = .nilIface ∧ lok l) ∨ ((∃ t u, v = .iface t u) ∧ ¬ lok l))
def LC (lb : List Nat → Nat) (lok : List Nat → Prop) : Prop := ∀ (s : ByteArray) (w : World), s.size ≤ 400 → Calls Tryz.prog 35 #[.string s, .int .i64 64] w (LightPost lb lok (bsN s) w)

theorem clo21_any (x y : Nat) (w : World) : Calls Tryz.prog 21 #[.float .f64 x, .float .f64 y] w fun e w' => e = .returned (.bool (fgt x y)) ∧ w = w' := by
  go_enter Tryz.func21, Tryz.ntmps21
  go_wp2_with fail
  go_ret
  exact ⟨by simp [fgt] <;> rfl, rfl⟩

theorem clo22_any (x y : Nat) (w : World) : Calls Tryz.prog 22 #[.float .f64 x, .float .f64 y] w fun e w' => e = .returned (.bool (fge x y)) ∧ w = w' := by
  go_enter Tryz.func22, Tryz.ntmps22
  go_wp2_with fail
  go_ret
  exact ⟨by simp [fge] <;> rfl, rfl⟩

theorem clo23_any (x y : Nat) (w : World) : Calls Tryz.prog 23 #[.float .f64 x, .float .f64 y] w fun e w' => e = .returned (.bool (flt x y)) ∧ w = w' := by
  go_enter Tryz.func23, Tryz.ntmps23
  go_wp2_with fail
  go_ret
  exact ⟨by simp [flt] <;> rfl, rfl⟩

theorem clo24_any (x y : Nat) (w : World) : Calls Tryz.prog 24 #[.float .f64 x, .float .f64 y] w fun e w' => e = .returned (.bool (fle x y)) ∧ w = w' := by
  go_enter Tryz.func24, Tryz.ntmps24
  go_wp2_with fail
  go_ret
  exact ⟨by simp [fle] <;> rfl, rfl⟩

end Go.Proofs.YtdfbokmjipdolaaGreatDoor
/- compareNumeric, over what the light ParseFloat answers. -/
namespace Go.Proofs.YtdfbokmjipdolaaGreatDoor
open Go.RowKit

/-- the number in a filter's value, if it is one -/
def FBits (lb : List Nat → Nat) (lok : List Nat → Prop) (v : Value) : Option Nat → Prop
  | some y => (∃ T : ByteArray, v = .iface 9 (.string T) ∧ lok (bsN T) ∧ y = lb (bsN T)) ∨ ∃ N : Int, v = .iface 3 (.int .i64 N) ∧ y = floatOfInt .f64 N
  | none => ∃ T : ByteArray, v = .iface 9 (.string T) ∧ ¬ lok (bsN T)
/-- what a number comparison answers -/
def NRes (lb : List Nat → Nat) (lok : List Nat → Prop) (rel : Nat → Nat → Bool) (l : List Nat) (v : Value) (r : Bool) : Prop :=
  (¬ lok l ∧ r = false) ∨ (lok l ∧ FBits lb lok v none ∧ r = false) ∨ (lok l ∧ ∃ y, FBits lb lok v (some y) ∧ r = rel (lb l) y)

set_option maxRecDepth 100000 in
theorem num21_any (lb : List Nat → Nat) (lok : List Nat → Prop) (H : LC lb lok) (p v : Value) (T s : ByteArray) (w : World) (hs : s.size ≤ 400) (hT : T.size ≤ 400) (hv : FVal v T) :
    Calls Tryz.prog 20 #[p, .string s, v, .func (.func 21) #[] #[]] w fun e w' => Below w.heap.size w w' ∧ ∃ r, e = .returned (.bool r) ∧ NRes lb lok fgt (bsN s) v r := by
  have H1 := Lib.hid (H s w hs)
  go_enter Tryz.func20, Tryz.ntmps20
  go_wp2_with fail
  refine H1.out.mono ?_
  rintro e w1 ⟨hb, x, rfl, hx⟩
  have HB := Lib.hid hb
  clear hb
  rcases hx with ⟨rfl, hl⟩ | ⟨⟨t, u, rfl⟩, hl⟩
  · have HL := Lib.hid hl
    clear hl
    rcases hv with rfl | ⟨N, h0, h1, rfl, hT2⟩
    · have q9 := ta_s9 T
      have q3 := ta_s3 T
      have q2 := ta_s2 T
      have q29 := ta_s29 T
      have q85 := ta_s85 T
      have H2 := Lib.hid (H T w1 hT)
      go_wp2_with fail
      refine H2.out.mono ?_
      rintro e w2 ⟨hb2, x, rfl, hx⟩
      have HB2 := Lib.hid (HB.out.trans (hb2.mono HB.out.size))
      clear hb2
      rcases hx with ⟨rfl, hm⟩ | ⟨⟨t, u, rfl⟩, hm⟩
      · have HM := Lib.hid hm
        clear hm
        go_wp2_with fail
        refine (clo21_any _ _ _).mono ?_
        rintro e w3 ⟨rfl, rfl⟩
        go_wp2_with fail
        go_ret
        exact ⟨HB2.out, _, rfl, Or.inr (Or.inr ⟨HL.out, _, Or.inl ⟨T, rfl, HM.out, rfl⟩, rfl⟩)⟩
      · have HM := Lib.hid hm
        clear hm
        go_wp2_with fail
        go_ret
        exact ⟨HB2.out, _, rfl, Or.inr (Or.inl ⟨HL.out, ⟨T, rfl, HM.out⟩, rfl⟩)⟩
    · have q3 := ta_i3 N
      clear hT2
      go_wp2_with fail
      refine (clo21_any _ _ _).mono ?_
      rintro e w3 ⟨rfl, rfl⟩
      go_wp2_with fail
      go_ret
      exact ⟨HB.out, _, rfl, Or.inr (Or.inr ⟨HL.out, _, Or.inr ⟨N, rfl, rfl⟩, rfl⟩)⟩
  · have HL := Lib.hid hl
    clear hl
    go_wp2_with fail
    go_ret
    exact ⟨HB.out, _, rfl, Or.inl ⟨HL.out, rfl⟩⟩

set_option maxRecDepth 100000 in
theorem num22_any (lb : List Nat → Nat) (lok : List Nat → Prop) (H : LC lb lok) (p v : Value) (T s : ByteArray) (w : World) (hs : s.size ≤ 400) (hT : T.size ≤ 400) (hv : FVal v T) :
    Calls Tryz.prog 20 #[p, .string s, v, .func (.func 22) #[] #[]] w fun e w' => Below w.heap.size w w' ∧ ∃ r, e = .returned (.bool r) ∧ NRes lb lok fge (bsN s) v r := by
  have H1 := Lib.hid (H s w hs)
  go_enter Tryz.func20, Tryz.ntmps20
  go_wp2_with fail
  refine H1.out.mono ?_
  rintro e w1 ⟨hb, x, rfl, hx⟩
  have HB := Lib.hid hb
  clear hb
  rcases hx with ⟨rfl, hl⟩ | ⟨⟨t, u, rfl⟩, hl⟩
  · have HL := Lib.hid hl
    clear hl
    rcases hv with rfl | ⟨N, h0, h1, rfl, hT2⟩
    · have q9 := ta_s9 T
      have q3 := ta_s3 T
      have q2 := ta_s2 T
      have q29 := ta_s29 T
      have q85 := ta_s85 T
      have H2 := Lib.hid (H T w1 hT)
      go_wp2_with fail
      refine H2.out.mono ?_
      rintro e w2 ⟨hb2, x, rfl, hx⟩
      have HB2 := Lib.hid (HB.out.trans (hb2.mono HB.out.size))
      clear hb2
      rcases hx with ⟨rfl, hm⟩ | ⟨⟨t, u, rfl⟩, hm⟩
      · have HM := Lib.hid hm
        clear hm
        go_wp2_with fail
        refine (clo22_any _ _ _).mono ?_
        rintro e w3 ⟨rfl, rfl⟩
        go_wp2_with fail
        go_ret
        exact ⟨HB2.out, _, rfl, Or.inr (Or.inr ⟨HL.out, _, Or.inl ⟨T, rfl, HM.out, rfl⟩, rfl⟩)⟩
      · have HM := Lib.hid hm
        clear hm
        go_wp2_with fail
        go_ret
        exact ⟨HB2.out, _, rfl, Or.inr (Or.inl ⟨HL.out, ⟨T, rfl, HM.out⟩, rfl⟩)⟩
    · have q3 := ta_i3 N
      clear hT2
      go_wp2_with fail
      refine (clo22_any _ _ _).mono ?_
      rintro e w3 ⟨rfl, rfl⟩
      go_wp2_with fail
      go_ret
      exact ⟨HB.out, _, rfl, Or.inr (Or.inr ⟨HL.out, _, Or.inr ⟨N, rfl, rfl⟩, rfl⟩)⟩
  · have HL := Lib.hid hl
    clear hl
    go_wp2_with fail
    go_ret
    exact ⟨HB.out, _, rfl, Or.inl ⟨HL.out, rfl⟩⟩

set_option maxRecDepth 100000 in
theorem num23_any (lb : List Nat → Nat) (lok : List Nat → Prop) (H : LC lb lok) (p v : Value) (T s : ByteArray) (w : World) (hs : s.size ≤ 400) (hT : T.size ≤ 400) (hv : FVal v T) :
    Calls Tryz.prog 20 #[p, .string s, v, .func (.func 23) #[] #[]] w fun e w' => Below w.heap.size w w' ∧ ∃ r, e = .returned (.bool r) ∧ NRes lb lok flt (bsN s) v r := by
  have H1 := Lib.hid (H s w hs)
  go_enter Tryz.func20, Tryz.ntmps20
  go_wp2_with fail
  refine H1.out.mono ?_
  rintro e w1 ⟨hb, x, rfl, hx⟩
  have HB := Lib.hid hb
  clear hb
  rcases hx with ⟨rfl, hl⟩ | ⟨⟨t, u, rfl⟩, hl⟩
  · have HL := Lib.hid hl
    clear hl
    rcases hv with rfl | ⟨N, h0, h1, rfl, hT2⟩
    · have q9 := ta_s9 T
      have q3 := ta_s3 T
      have q2 := ta_s2 T
      have q29 := ta_s29 T
      have q85 := ta_s85 T
      have H2 := Lib.hid (H T w1 hT)
      go_wp2_with fail
      refine H2.out.mono ?_
      rintro e w2 ⟨hb2, x, rfl, hx⟩
      have HB2 := Lib.hid (HB.out.trans (hb2.mono HB.out.size))
      clear hb2
      rcases hx with ⟨rfl, hm⟩ | ⟨⟨t, u, rfl⟩, hm⟩
      · have HM := Lib.hid hm
        clear hm
        go_wp2_with fail
        refine (clo23_any _ _ _).mono ?_
        rintro e w3 ⟨rfl, rfl⟩
        go_wp2_with fail
        go_ret
        exact ⟨HB2.out, _, rfl, Or.inr (Or.inr ⟨HL.out, _, Or.inl ⟨T, rfl, HM.out, rfl⟩, rfl⟩)⟩
      · have HM := Lib.hid hm
        clear hm
        go_wp2_with fail
        go_ret
        exact ⟨HB2.out, _, rfl, Or.inr (Or.inl ⟨HL.out, ⟨T, rfl, HM.out⟩, rfl⟩)⟩
    · have q3 := ta_i3 N
      clear hT2
      go_wp2_with fail
      refine (clo23_any _ _ _).mono ?_
      rintro e w3 ⟨rfl, rfl⟩
      go_wp2_with fail
      go_ret
      exact ⟨HB.out, _, rfl, Or.inr (Or.inr ⟨HL.out, _, Or.inr ⟨N, rfl, rfl⟩, rfl⟩)⟩
  · have HL := Lib.hid hl
    clear hl
    go_wp2_with fail
    go_ret
    exact ⟨HB.out, _, rfl, Or.inl ⟨HL.out, rfl⟩⟩

set_option maxRecDepth 100000 in
theorem num24_any (lb : List Nat → Nat) (lok : List Nat → Prop) (H : LC lb lok) (p v : Value) (T s : ByteArray) (w : World) (hs : s.size ≤ 400) (hT : T.size ≤ 400) (hv : FVal v T) :
    Calls Tryz.prog 20 #[p, .string s, v, .func (.func 24) #[] #[]] w fun e w' => Below w.heap.size w w' ∧ ∃ r, e = .returned (.bool r) ∧ NRes lb lok fle (bsN s) v r := by
  have H1 := Lib.hid (H s w hs)
  go_enter Tryz.func20, Tryz.ntmps20
  go_wp2_with fail
  refine H1.out.mono ?_
  rintro e w1 ⟨hb, x, rfl, hx⟩
  have HB := Lib.hid hb
  clear hb
  rcases hx with ⟨rfl, hl⟩ | ⟨⟨t, u, rfl⟩, hl⟩
  · have HL := Lib.hid hl
    clear hl
    rcases hv with rfl | ⟨N, h0, h1, rfl, hT2⟩
    · have q9 := ta_s9 T
      have q3 := ta_s3 T
      have q2 := ta_s2 T
      have q29 := ta_s29 T
      have q85 := ta_s85 T
      have H2 := Lib.hid (H T w1 hT)
      go_wp2_with fail
      refine H2.out.mono ?_
      rintro e w2 ⟨hb2, x, rfl, hx⟩
      have HB2 := Lib.hid (HB.out.trans (hb2.mono HB.out.size))
      clear hb2
      rcases hx with ⟨rfl, hm⟩ | ⟨⟨t, u, rfl⟩, hm⟩
      · have HM := Lib.hid hm
        clear hm
        go_wp2_with fail
        refine (clo24_any _ _ _).mono ?_
        rintro e w3 ⟨rfl, rfl⟩
        go_wp2_with fail
        go_ret
        exact ⟨HB2.out, _, rfl, Or.inr (Or.inr ⟨HL.out, _, Or.inl ⟨T, rfl, HM.out, rfl⟩, rfl⟩)⟩
      · have HM := Lib.hid hm
        clear hm
        go_wp2_with fail
        go_ret
        exact ⟨HB2.out, _, rfl, Or.inr (Or.inl ⟨HL.out, ⟨T, rfl, HM.out⟩, rfl⟩)⟩
    · have q3 := ta_i3 N
      clear hT2
      go_wp2_with fail
      refine (clo24_any _ _ _).mono ?_
      rintro e w3 ⟨rfl, rfl⟩
      go_wp2_with fail
      go_ret
      exact ⟨HB.out, _, rfl, Or.inr (Or.inr ⟨HL.out, _, Or.inr ⟨N, rfl, rfl⟩, rfl⟩)⟩
  · have HL := Lib.hid hl
    clear hl
    go_wp2_with fail
    go_ret
    exact ⟨HB.out, _, rfl, Or.inl ⟨HL.out, rfl⟩⟩

end Go.Proofs.YtdfbokmjipdolaaGreatDoor
