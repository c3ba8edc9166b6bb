/- Texts of the proof, joined: A2, A8, B2, B8. -/
import Derived.Test.YtdfbokmjipdolaaGreatDoorQ1
import Derived.Test.YtdfbokmjipdolaaGreatDoorShelf
import Derived.BigQuiet
import Derived.Deep.QuietTactic
import GoSem.PinnedTables
set_option linter.unusedVariables false
set_option linter.unusedSimpArgs false
/- prescale, uscale, parseFloat64: what they give, in plain numbers. -/
namespace Go.Proofs.YtdfbokmjipdolaaGreatDoor
open Go.RowKit


/-- what uscale hands back, of hi:mid, mid2 -/
def usr (hi mid mid2 s : Nat) : Nat :=
  if hi / 2 ^ s * 2 ^ s = hi then (hi - b2n (decide (mid < mid2))) / 2 ^ s ||| b2n (decide ((mid + 18446744073709551616 - mid2) % 18446744073709551616 > 1))
  else hi / 2 ^ s ||| 1
def usc (x ph pl s : Nat) : Nat := usr (x * ph / 18446744073709551616) (x * ph % 18446744073709551616) (x * pl / 18446744073709551616) s

theorem ret_u64 {a b : Int} (h : a = b) : Ending.returned (.int .u64 a) = Ending.returned (.int .u64 b) := by rw [h]

theorem wrap_sub_u64 (a b : Nat) (ha : a < 18446744073709551616) (hb : b < 18446744073709551616) : IntKind.u64.wrap ((a : Int) - b) = (((a + 18446744073709551616 - b) % 18446744073709551616 : Nat) : Int) := by
  simp [IntKind.wrap, IntKind.bits, IntKind.signed]; omega
theorem div_mul_lt (hi s : Nat) (h : hi < 18446744073709551616) : IntKind.u64.wrap ((hi : Int) / 2 ^ s * 2 ^ s) = ((hi / 2 ^ s * 2 ^ s : Nat) : Int) := by
  have : hi / 2 ^ s * 2 ^ s ≤ hi := Nat.div_mul_le_self _ _
  have e : ((hi : Int) / 2 ^ s * 2 ^ s) = ((hi / 2 ^ s * 2 ^ s : Nat) : Int) := by simp
  rw [e]
  exact IntWalk.u64_in _ (by omega)

theorem quiet_same' {P : Program} {f : FuncId} {args : Array Value} {w : World} {n : Nat} {v : Value}
    (h : Calls P f args (w.drewN n) fun e w' => e = .returned v ∧ w.drewN n = w') : Calls P f args (w.drewN n) fun e w'' => e = .returned v ∧ ∃ m, w'' = w.drewN m :=
  h.mono fun _ _ ⟨he, hm⟩ => ⟨he, n, hm.symm⟩

set_option maxRecDepth 100000 in
theorem uscale_core (x ph pl s hi mid mid2 lo2 : Nat) (a : Nat) (w : World) (hhi : hi < 18446744073709551616) (hmid : mid < 18446744073709551616) (hmid2 : mid2 < 18446744073709551616) (hs : s < 64) (hne : hi = 0 → mid2 ≤ mid)
    (m1 : ∀ w, Calls Tryz.prog 123 #[.int .u64 x, .int .u64 ph] w fun e w' => e = .returned (.tuple #[.int .u64 hi, .int .u64 mid]) ∧ w = w')
    (m2 : ∀ w, Calls Tryz.prog 123 #[.int .u64 x, .int .u64 pl] w fun e w' => e = .returned (.tuple #[.int .u64 mid2, .int .u64 lo2]) ∧ w = w')
    (c0 : w.cell? ⟨a, 0, none⟩ = some (.int .u64 ph)) (c1 : w.cell? ⟨a, 1, none⟩ = some (.int .u64 pl)) (c2 : w.cell? ⟨a, 2, none⟩ = some (.int .i64 s)) :
    Calls Tryz.prog 107 #[.int .u64 x, .pointer (some ⟨a, 0, none⟩)] w fun e w' => e = .returned (.int .u64 (usr hi mid mid2 s)) ∧ ∃ n, w' = w.drewN n := by
  have M1 := Lib.hid m1
  have M2 := Lib.hid m2
  clear m1 m2
  have hb : bits BinOp.and IntKind.i64 (s : Int) 63 = (s : Int) := by
    have := bits_mask .i64 63 (by decide) (fun n h0 h1 => by rw [IntKind.wrap_i64]; omega) 6 (by decide) (s : Int) (by omega) (by omega)
    rw [show ((63 : Int)) = 2 ^ 6 - 1 from rfl, this]; omega
  have h64 : (s : Int) < 64 := by omega
  have h00 : 0 ≤ (s : Int) := by omega
  go_enter Tryz.func107, Tryz.ntmps107
  go_wp2_with fail
  refine (M1.out _).mono ?_
  rintro e w' ⟨rfl, rfl⟩
  go_wp2_with fail
  · have hq : (IntKind.u64.wrap ((hi : Int) / 2 ^ s * 2 ^ s) != (hi : Int)) = true := by assumption
    go_ret
    refine ⟨ret_u64 ?_, 0, rfl⟩
    rw [div_mul_lt hi s hhi] at hq
    have hn : ¬ hi / 2 ^ s * 2 ^ s = hi := by
      intro h; rw [h] at hq; simp at hq
    have hle : hi / 2 ^ s ≤ hi := Nat.div_le_self _ _
    have hor := bits_or_u64 (hi / 2 ^ s) 1 (by omega) (by decide)
    rw [show usr hi mid mid2 s = hi / 2 ^ s ||| 1 from if_neg hn, ← hor]
    simp
  · have hq : (IntKind.u64.wrap ((hi : Int) / 2 ^ s * 2 ^ s) != (hi : Int)) = false := by assumption
    refine (M2.out _).mono ?_
    rintro e w' ⟨rfl, rfl⟩
    go_wp2_with fail
    refine (bool2u64_any _ _).mono ?_
    rintro e w' ⟨rfl, rfl⟩
    go_wp2_with fail
    have e : IntKind.u64.wrap ((hi : Int) - (b2n (decide (mid < mid2)) : Nat)) = ((hi - b2n (decide (mid < mid2)) : Nat) : Int) := by
      unfold b2n
      by_cases h : mid < mid2
      · have := hne; rw [if_pos (by simpa using h)]; rw [IntWalk.u64_in _ (by omega)]; omega
      · rw [if_neg (by simpa using h)]; rw [IntWalk.u64_in _ (by omega)]; omega
    rw [e]
    obtain ⟨h2, eh2⟩ : ∃ h2, h2 = hi - b2n (decide (mid < mid2)) := ⟨_, rfl⟩
    rw [← eh2]
    have Heh := Lib.hid eh2
    clear eh2 e
    go_quiet ((go_at_call 75; exact quiet_same' (bool2u64_any _ _)))
    go_wp2_with fail
    go_ret
    refine ⟨ret_u64 ?_, _, rfl⟩
    rw [div_mul_lt hi s hhi] at hq
    have hn : hi / 2 ^ s * 2 ^ s = hi := by
      have h := bne_eq_false_iff_eq.1 hq
      omega
    have hle : h2 / 2 ^ s ≤ h2 := Nat.div_le_self _ _
    have hh2 : h2 ≤ hi := by rw [Heh.out]; omega
    have hb1 : b2n (decide ((mid + 18446744073709551616 - mid2) % 18446744073709551616 > 1)) < 2 := by unfold b2n; split <;> omega
    have hor := bits_or_u64 (h2 / 2 ^ s) (b2n (decide ((mid + 18446744073709551616 - mid2) % 18446744073709551616 > 1))) (by omega) (by omega)
    rw [show usr hi mid mid2 s = _ from if_pos hn, ← Heh.out, ← hor]
    have ew := wrap_sub_u64 mid mid2 hmid hmid2
    rw [ew]
    have ed : decide (1 < (((mid + 18446744073709551616 - mid2) % 18446744073709551616 : Nat) : Int)) = decide ((mid + 18446744073709551616 - mid2) % 18446744073709551616 > 1) := by
      apply decide_eq_decide.2; omega
    rw [ed]
    simp

theorem uscale_any (x ph pl s : Nat) (a : Nat) (w : World) (hx : x < 18446744073709551616) (hp : ph < 18446744073709551616) (hl : pl < 18446744073709551616) (hs : s < 64) (hne : x * ph / 18446744073709551616 ≠ 0)
    (c0 : w.cell? ⟨a, 0, none⟩ = some (.int .u64 ph)) (c1 : w.cell? ⟨a, 1, none⟩ = some (.int .u64 pl)) (c2 : w.cell? ⟨a, 2, none⟩ = some (.int .i64 s)) :
    Calls Tryz.prog 107 #[.int .u64 x, .pointer (some ⟨a, 0, none⟩)] w fun e w' => e = .returned (.int .u64 (usc x ph pl s)) ∧ ∃ n, w' = w.drewN n := by
  have hlt : ∀ y, y < 18446744073709551616 → x * y / 18446744073709551616 < 18446744073709551616 := fun y hy => by
    refine (Nat.div_lt_iff_lt_mul (by decide)).2 (Nat.mul_lt_mul'' hx hy)
  exact uscale_core x ph pl s _ _ _ (x * pl % 18446744073709551616) a w (hlt _ hp) (Nat.mod_lt _ (by decide)) (hlt _ hl) hs (fun h => absurd h hne)
    (fun w => (Tryz.bits_Mul64 x ph hx hp w).mono fun _ _ h => ⟨h.1, h.2.symm⟩)
    (fun w => (Tryz.bits_Mul64 x pl hx hl w).mono fun _ _ h => ⟨h.1, h.2.symm⟩) c0 c1 c2

/-- the rows of Go's table of powers of ten -/
def pHi (p : Int) : Nat := (Go.Pinned.pow10Rows.getD (p + 348).toNat (0, 0)).1
def pLo (p : Int) : Nat := (Go.Pinned.pow10Rows.getD (p + 348).toNat (0, 0)).2
/-- the table lies in block 14 -/
def Pow10At (w : World) : Prop := ∀ p : Int, -348 ≤ p → p ≤ 347 → w.cell? ⟨14, (p + 348).toNat * 2, none⟩ = some (.int .u64 (pHi p)) ∧ w.cell? ⟨14, (p + 348).toNat * 2 + 1, none⟩ = some (.int .u64 (pLo p))

theorem prescale_any (a : Nat) (x p lp : Int) (w : World) (hp : -348 ≤ p) (hp' : p ≤ 347) (hx : -3000 ≤ x) (hx' : x ≤ 3000) (hl : -3000 ≤ lp) (hl' : lp ≤ 3000) (h14 : 14 < a) (ht : Pow10At w) (v0 v1 v2 : Value)
    (c0 : w.cell? ⟨a, 0, none⟩ = some v0) (c1 : w.cell? ⟨a, 1, none⟩ = some v1) (c2 : w.cell? ⟨a, 2, none⟩ = some v2) (f0 : w.frozen? ⟨a, 0, none⟩ = false) (f1 : w.frozen? ⟨a, 1, none⟩ = false) (f2 : w.frozen? ⟨a, 2, none⟩ = false) :
    Calls Tryz.prog 106 #[.pointer (some ⟨a, 0, none⟩), .int .i64 x, .int .i64 p, .int .i64 lp] w fun e w' => e = .returned (.tuple #[]) ∧ w' = ((w.setCell ⟨a, 0, none⟩ (.int .u64 (pHi p))).setCell ⟨a, 1, none⟩ (.int .u64 (pLo p))).setCell ⟨a, 2, none⟩ (.int .i64 (-(x + lp + 3))) := by
  obtain ⟨t0, t1⟩ := ht p hp hp'
  clear ht
  have h14' : ¬ 14 = a := by omega
  have h14'' : ¬ a = 14 := by omega
  go_enter Tryz.func106, Tryz.ntmps106
  go_wp2
  go_end0
  exact ⟨rfl, rfl⟩

theorem rows_ok : ∀ r ∈ Go.Pinned.pow10Rows, 9223372036854775808 ≤ r.1 ∧ r.1 < 18446744073709551616 ∧ r.2 < 18446744073709551616 := by decide +kernel
theorem rows_len : Go.Pinned.pow10Rows.length = 696 := by decide +kernel
theorem pRow (p : Int) (h0 : -348 ≤ p) (h1 : p ≤ 347) : 9223372036854775808 ≤ pHi p ∧ pHi p < 18446744073709551616 ∧ pLo p < 18446744073709551616 := by
  have hl : (p + 348).toNat < Go.Pinned.pow10Rows.length := by rw [rows_len]; omega
  have := rows_ok _ (List.getElem_mem hl)
  unfold pHi pLo
  rw [List.getD_eq_getElem?_getD, List.getElem?_eq_getElem hl]
  exact this

/-- what parseFloat64 gives for a mantissa of b binary digits -/
def pfE (b : Nat) (p : Int) : Int := min 1074 (53 - b - p * 108853 / 32768)
def pfS (b : Nat) (p : Int) : Int := -(pfE b p - (64 - b) + p * 108853 / 32768 + 3)
def pfU (d b : Nat) (p : Int) : Nat := usc (d * 2 ^ (64 - b)) (pHi p) (pLo p) (pfS b p).toNat
def pfSh (u : Nat) : Nat := b2n (decide (36028797018963966 ≤ u))
def pfM (u : Nat) : Nat := rnd (u / 2 ^ pfSh u ||| u % 2)


theorem three_cells {w : World} {T : TypeId} {x y z : Value} :
    (w.alloc (.cells #[x, y, z] T)).cell? ⟨w.heap.size, 0, none⟩ = some x ∧ (w.alloc (.cells #[x, y, z] T)).cell? ⟨w.heap.size, 1, none⟩ = some y ∧ (w.alloc (.cells #[x, y, z] T)).cell? ⟨w.heap.size, 2, none⟩ = some z ∧
    (w.alloc (.cells #[x, y, z] T)).frozen? ⟨w.heap.size, 0, none⟩ = false ∧ (w.alloc (.cells #[x, y, z] T)).frozen? ⟨w.heap.size, 1, none⟩ = false ∧ (w.alloc (.cells #[x, y, z] T)).frozen? ⟨w.heap.size, 2, none⟩ = false := by
  refine ⟨?_, ?_, ?_, ?_, ?_, ?_⟩ <;> go_simp

theorem cell_later {w wx : World} {a : Addr} {v : Value} (hb : Below w.heap.size w wx) (h : w.cell? a = some v) : wx.cell? a = some v := (hb.cell (World.block_lt_of_cell? _ _ h)).trans h
theorem Pow10At.later {w wx : World} (ht : Pow10At w) (hb : Below w.heap.size w wx) : Pow10At wx := fun p h0 h1 => ⟨cell_later hb (ht p h0 h1).1, cell_later hb (ht p h0 h1).2⟩

/-- the first steps of parseFloat64: behind prescale -/
theorem prescale_new (x p lp : Int) (w : World) (hp : -348 ≤ p) (hp' : p ≤ 347) (hx : -3000 ≤ x) (hx' : x ≤ 3000) (hl : -3000 ≤ lp) (hl' : lp ≤ 3000) (h14 : 14 < w.heap.size) (ht : Pow10At w) (s : Int) (hs : s = -(x + lp + 3)) :
    Calls Tryz.prog 106 #[.pointer (some ⟨w.heap.size, 0, none⟩), .int .i64 x, .int .i64 p, .int .i64 lp] (w.alloc (.cells #[.int .u64 0, .int .u64 0, .int .i64 0] 173)) fun e w' => e = .returned (.tuple #[]) ∧
      w'.cell? ⟨w.heap.size, 0, none⟩ = some (.int .u64 (pHi p)) ∧ w'.cell? ⟨w.heap.size, 1, none⟩ = some (.int .u64 (pLo p)) ∧ w'.cell? ⟨w.heap.size, 2, none⟩ = some (.int .i64 s) ∧ Below w.heap.size w w' := by
  obtain ⟨c0, c1, c2, f0, f1, f2⟩ := three_cells (w := w) (T := 173) (x := .int .u64 0) (y := .int .u64 0) (z := .int .i64 0)
  have hb : Below w.heap.size w (w.alloc (.cells #[.int .u64 0, .int .u64 0, .int .i64 0] 173)) := (Below.refl _ _).alloc (Nat.le_refl _) _
  refine (prescale_any w.heap.size x p lp _ hp hp' hx hx' hl hl' h14 (ht.later hb) _ _ _ c0 c1 c2 f0 f1 f2).mono ?_
  rintro e w' ⟨rfl, rfl⟩
  refine ⟨rfl, ?_, ?_, ?_, ?_⟩
  · go_simp
  · go_simp
  · rw [hs]; go_simp
  · exact ((hb.setCell (by simp) _).setCell (by simp) _).setCell (by simp) _

set_option maxRecDepth 100000 in
theorem parse64_core (neg : Bool) (d b : Nat) (p : Int) (w : World) (hd : d < 18446744073709551616) (hb0 : 1 ≤ b) (hb : b ≤ 64) (hp : -345 ≤ p) (hp' : p ≤ 310) (hsz : 14 < w.heap.size) (ht : Pow10At w)
    (hlen : ∀ w, Calls Tryz.prog 104 #[.int .u64 d] w fun e w' => e = .returned (.int .i64 b) ∧ w = w') (hs : 64 ≤ pfS b p) :
    Calls Tryz.prog 78 #[.int .u64 d, .int .i64 p, .int .u64 (sgn neg)] w fun e w' => e = .returned (.tuple #[.float .f64 (sgn neg), .nilIface]) ∧ Below w.heap.size w w' := by
  have Hlen := Lib.hid hlen
  obtain ⟨E, hE⟩ : ∃ E, E = min 1074 (53 - ↑b - p * 108853 / 32768) := ⟨_, rfl⟩
  have bE : E ≤ 1074 ∧ -1100 ≤ E := by omega
  have hS : pfS b p = -(E - (64 - b) + p * 108853 / 32768 + 3) := by unfold pfS pfE; rw [hE]
  obtain ⟨S, eS⟩ : ∃ S, S = pfS b p := ⟨_, rfl⟩
  have HP := Lib.hid (prescale_new (E - (64 - b)) p (p * 108853 / 32768) w (by omega) (by omega) (by omega) (by omega) (by omega) (by omega) hsz ht S (by rw [eS, hS]))
  rw [← eS] at hs
  clear hlen ht hS eS
  have H14 := Lib.hid hsz
  have HE := Lib.hid hE
  have hor : bits BinOp.or IntKind.u64 ((sgn neg : Nat) : Int) 0 = ((sgn neg : Nat) : Int) := by
    have h := bits_or_u64 (sgn neg) 0 (by have := sgn_lt neg; omega) (by decide)
    rw [Nat.or_zero] at h; exact h
  clear hsz hE
  go_enter Tryz.func78, Tryz.ntmps78
  go_wp2_with fail
  refine (Hlen.out _).mono ?_
  rintro e w' ⟨rfl, rfl⟩
  go_wp2_with fail
  refine (lp_any p _ (by omega) (by omega)).mono ?_
  rintro e w' ⟨rfl, rfl⟩
  go_wp2_with fail
  rw [← HE.out]
  refine HP.out.mono ?_
  rintro e w' ⟨rfl, c0, c1, c2, hbel⟩
  go_wp2_with fail
  go_ret2
  exact ⟨ret_f2 (by simp) rfl, hbel⟩
end Go.Proofs.YtdfbokmjipdolaaGreatDoor
/- parseFloat64 where the product counts: its bits and its error. -/
namespace Go.Proofs.YtdfbokmjipdolaaGreatDoor
open Go.RowKit

theorem or_par (u : Nat) : u ||| u % 2 = u := by
  have h := or_split u (u % 2) 1
  rw [show u % 2 / 2 ^ 1 = 0 by omega, Nat.or_zero] at h
  rw [h, show u % 2 % 2 ^ 1 = u % 2 by omega, show u % 2 ^ 1 = u % 2 from rfl, Nat.or_self]
  omega
theorem usc_lt (x ph pl s : Nat) (hs : 8 ≤ s) (hx : x < 18446744073709551616) (hp : ph < 18446744073709551616) : usc x ph pl s < 72057594037927936 := by
  have hq : x * ph / 18446744073709551616 < 18446744073709551616 := (Nat.div_lt_iff_lt_mul (by decide)).2 (Nat.mul_lt_mul'' hx hp)
  have hdiv : ∀ y, y < 18446744073709551616 → y / 2 ^ s < 2 ^ 56 := fun y hy => by
    refine (Nat.div_lt_iff_lt_mul (Nat.two_pow_pos s)).2 ?_
    have : (2 : Nat) ^ 8 ≤ 2 ^ s := Nat.pow_le_pow_right (by decide) hs
    omega
  unfold usc usr
  split
  · refine Nat.or_lt_two_pow (n := 56) (hdiv _ (by omega)) ?_
    unfold b2n; split <;> decide
  · exact Nat.or_lt_two_pow (n := 56) (hdiv _ hq) (by decide)
theorem pfV_lt (u : Nat) (h : u < 72057594037927936) : (u / 2 ^ pfSh u ||| u % 2) < 36028797018963968 := by
  unfold pfSh b2n
  split
  · exact Nat.or_lt_two_pow (n := 55) (by omega) (by omega)
  · rename_i hc
    rw [Nat.pow_zero, Nat.div_one, or_par]
    simp at hc
    omega
theorem pfM_le (u : Nat) (h : u < 72057594037927936) : pfM u ≤ 9007199254740992 ∧ pfSh u < 2 := by
  refine ⟨?_, by unfold pfSh b2n; split <;> decide⟩
  have := pfV_lt u h
  unfold pfM rnd
  generalize (u / 2 ^ pfSh u ||| u % 2) = v at *
  omega

set_option maxRecDepth 100000 in
set_option maxHeartbeats 1000000 in
theorem parse64_main (neg : Bool) (d b : Nat) (p : Int) (w : World) (hd : d < 18446744073709551616) (hb0 : 1 ≤ b) (hb : b ≤ 64) (d2 : 2 ^ (b - 1) ≤ d) (d1 : d < 2 ^ b) (hp : -345 ≤ p) (hp' : p ≤ 310) (hsz : 14 < w.heap.size) (ht : Pow10At w)
    (hlen : ∀ w, Calls Tryz.prog 104 #[.int .u64 d] w fun e w' => e = .returned (.int .i64 b) ∧ w = w') (hs : pfS b p < 64) :
    Calls Tryz.prog 78 #[.int .u64 d, .int .i64 p, .int .u64 (sgn neg)] w fun e w' => e = .returned (.tuple #[.float .f64 (packBits neg (pfM (pfU d b p)) (-(pfE b p - pfSh (pfU d b p)))), packErr (pfM (pfU d b p)) (-(pfE b p - pfSh (pfU d b p)))]) ∧ Below w.heap.size w w' := by
  have Hlen := Lib.hid hlen
  obtain ⟨E, hE⟩ : ∃ E, E = min 1074 (53 - ↑b - p * 108853 / 32768) := ⟨_, rfl⟩
  have bE : E ≤ 1074 ∧ -1100 ≤ E := by omega
  have hS : pfS b p = -(E - (64 - b) + p * 108853 / 32768 + 3) := by unfold pfS pfE; rw [hE]
  have eE : pfE b p = E := by unfold pfE; rw [hE]
  have hS8 : 8 ≤ pfS b p := by unfold pfS pfE; omega
  obtain ⟨S, eS⟩ : ∃ S : Nat, pfS b p = S := ⟨(pfS b p).toNat, by omega⟩
  have HP := Lib.hid (prescale_new (E - (64 - b)) p (p * 108853 / 32768) w (by omega) (by omega) (by omega) (by omega) (by omega) (by omega) hsz ht S (by rw [← eS, hS]))
  have hS64 : S < 64 := by omega
  have hS8' : 8 ≤ S := by omega
  obtain ⟨g1, g2, g3⟩ := pRow p (by omega) (by omega)
  have hp2 : 2 ^ (b - 1) * 2 ^ (64 - b) = 2 ^ 63 := by rw [← Nat.pow_add]; congr 1; omega
  have hp3 : 2 ^ b * 2 ^ (64 - b) = 2 ^ 64 := by rw [← Nat.pow_add]; congr 1; omega
  obtain ⟨X, eX⟩ : ∃ X, X = d * 2 ^ (64 - b) := ⟨_, rfl⟩
  have hX1 : 2 ^ 63 ≤ X := by rw [eX, ← hp2]; exact Nat.mul_le_mul_right _ d2
  have hX2 : X < 2 ^ 64 := by rw [eX, ← hp3]; exact Nat.mul_lt_mul_of_pos_right d1 (Nat.two_pow_pos _)
  have hX2' : X < 18446744073709551616 := hX2
  have hnz : X * pHi p / 18446744073709551616 ≠ 0 := by
    have : 2 ^ 63 * 9223372036854775808 ≤ X * pHi p := Nat.mul_le_mul hX1 g1
    omega
  have eU : pfU d b p = usc X (pHi p) (pLo p) S := by unfold pfU; rw [eS, ← eX]; rfl
  have hU := usc_lt X (pHi p) (pLo p) S hS8' hX2' g2
  have HU := Lib.hid (fun (a : Nat) (w : World) => uscale_any X (pHi p) (pLo p) S a w hX2' g2 g3 hS64 hnz)
  rw [eU, eE]
  obtain ⟨U, hUe⟩ : ∃ U, U = usc X (pHi p) (pLo p) S := ⟨_, rfl⟩
  rw [← hUe] at hU HU ⊢
  obtain ⟨hM, hSh⟩ := pfM_le U hU
  have hV := pfV_lt U hU
  have hpk := fun w => pack_any neg (pfM U) (-(E - pfSh U)) w hM (by omega) (by omega)
  have hor : bits BinOp.or IntKind.u64 (sgn neg : Nat) ((pfM U : Nat) : Int) = ((sgn neg + pfM U : Nat) : Int) := by
    have h := bits_or_u64 (sgn neg) (pfM U) (by have := sgn_lt neg; omega) (by omega)
    rw [or_disj _ _ neg rfl (by omega)] at h
    exact h
  have hor2 : bits BinOp.or IntKind.u64 ((U : Int) / 2 ^ pfSh U) (bits BinOp.and IntKind.u64 (U : Int) 1) = ((U / 2 ^ pfSh U ||| U % 2 : Nat) : Int) := by
    rw [and_one_u64 _ (by omega) (by omega)]
    have := bits_or_u64 (U / 2 ^ pfSh U) (U % 2) (by have := Nat.div_le_self U (2 ^ pfSh U); omega) (by omega)
    rw [← this]; simp
  have hrd := fun w => round_any (U / 2 ^ pfSh U ||| U % 2) w (by omega)
  have Hun := Lib.hid (show ∀ w, Calls Tryz.prog 109 #[.int .u64 9007199254740992] w fun e w' => e = .returned (.int .u64 36028797018963966) ∧ w = w' from fun w => unmin_any 9007199254740992 w (by decide) (by decide))
  have Hsh := Lib.hid (show b2n (decide ((36028797018963966 : Int) ≤ (U : Int))) = pfSh U by unfold pfSh; congr 1; rw [decide_eq_decide]; omega)
  have HX := Lib.hid (show (d : Int) * 2 ^ (64 - b) = (X : Int) by rw [eX]; simp)
  have HX2 := Lib.hid (show IntKind.u64.wrap ((d : Int) * 2 ^ (64 - b)) = (X : Int) by rw [HX.out]; exact IntWalk.u64_in _ (by omega))
  have Hpk := Lib.hid hpk
  have Hor := Lib.hid hor
  have Hor2 := Lib.hid hor2
  have Hrd := Lib.hid hrd
  clear hlen ht hS eS hnz hUe eX hp2 hp3 hX1 hX2 d1 d2 g1 g2 g3 eU eE hpk hor hor2 hrd
  have H14 := Lib.hid hsz
  have HE := Lib.hid hE
  clear hsz hE
  go_enter Tryz.func78, Tryz.ntmps78
  go_wp2_with fail
  refine (Hlen.out _).mono ?_
  rintro e w' ⟨rfl, rfl⟩
  go_wp2_with fail
  refine (lp_any p _ (by omega) (by omega)).mono ?_
  rintro e w' ⟨rfl, rfl⟩
  go_wp2_with fail
  rw [← HE.out]
  refine HP.out.mono ?_
  rintro e w' ⟨rfl, c0, c1, c2, hbel⟩
  have Hbel := Lib.hid hbel
  clear hbel
  go_wp2_with fail
  rw [HX2.out]
  refine (HU.out _ _ c0 c1 c2).mono ?_
  rintro e w' ⟨rfl, nq, rfl⟩
  go_wp2_with fail
  refine (Hun.out _).mono ?_
  rintro e w1 ⟨rfl, rfl⟩
  go_wp2_with fail
  refine (bool2int_any _ _).mono ?_
  rintro e w1 ⟨rfl, rfl⟩
  rw [Hsh.out]
  obtain ⟨SH, hSHe⟩ : ∃ SH, SH = pfSh U := ⟨_, rfl⟩
  rw [← hSHe] at hSh Hor2 Hrd Hpk ⊢
  have HSH := Lib.hid hSHe
  clear hSHe
  go_wp2_with fail
  rw [Hor2.out]
  refine (Hrd.out _).mono ?_
  rintro e w1 ⟨rfl, rfl⟩
  rw [show rnd (U / 2 ^ SH ||| U % 2) = pfM U by rw [HSH.out]; rfl]
  go_wp2_with fail
  rw [Hor.out]
  refine (Hpk.out _).mono ?_
  rintro e w1 ⟨rfl, rfl⟩
  go_wp2_with fail
  go_ret2
  exact ⟨ret_f2 (by rw [HSH.out]) (by rw [HSH.out]; rfl), ⟨Hbel.out.os, Hbel.out.tape, Hbel.out.output, Hbel.out.size, Hbel.out.block⟩⟩
end Go.Proofs.YtdfbokmjipdolaaGreatDoor
/- Plain law: parseFloat64's rounding errs exactly from the threshold 2^1024 - 2^970 on, for at most 19 digits. -/
namespace Go.Proofs.YtdfbokmjipdolaaGreatDoor
open Go.RowKit

/-- powers behind a name: the elaborator leaves them alone -/
def p2 (n : Nat) : Nat := 2 ^ n
def p10 (n : Nat) : Nat := 10 ^ n
theorem p2_pos (n : Nat) : 0 < p2 n := Nat.two_pow_pos n
theorem p2_mul (a b : Nat) : 2 ^ a * p2 b = 2 ^ (a + b) := (Nat.pow_add 2 a b).symm
theorem p2_le (a b : Nat) (h : a ≤ b) : p2 a ≤ 2 ^ b := Nat.pow_le_pow_right (by decide) h
theorem p10_le (a b : Nat) (h : a ≤ b) : 10 ^ a ≤ p10 b := Nat.pow_le_pow_right (by decide) h
/-- the least number that rounds to infinity -/
def thr : Nat := p2 1024 - p2 970

theorem thr_le : thr ≤ p2 1024 := by
  unfold thr
  exact Nat.sub_le _ _

theorem bitLenAux_spec : ∀ (f x : Nat), x < 2 ^ f → x < 2 ^ Lib.bitLenAux f x ∧ (0 < x → 2 ^ (Lib.bitLenAux f x - 1) ≤ x ∧ 1 ≤ Lib.bitLenAux f x) ∧ Lib.bitLenAux f x ≤ f
  | 0, x, h => by simp [Lib.bitLenAux] at *; omega
  | f + 1, x, h => by
    simp only [Lib.bitLenAux]
    split
    · rename_i h0; subst h0; simp
    · rename_i h0
      obtain ⟨a, b, c⟩ := bitLenAux_spec f (x / 2) (by rw [Nat.pow_succ] at h; omega)
      refine ⟨by rw [Nat.add_comm, Nat.pow_succ]; omega, fun _ => ⟨?_, by omega⟩, by omega⟩
      rw [Nat.add_sub_cancel_left]
      by_cases h1 : 0 < x / 2
      · obtain ⟨b1, b2⟩ := b h1
        have : 2 ^ Lib.bitLenAux f (x / 2) = 2 ^ (Lib.bitLenAux f (x / 2) - 1) * 2 := by rw [← Nat.pow_succ]; congr 1; omega
        omega
      · have h2 : x / 2 = 0 := by omega
        have h3 : Lib.bitLenAux f (x / 2) = 0 := by
          rw [h2]; cases f <;> simp [Lib.bitLenAux]
        rw [h3]; omega
theorem bitLen_spec (d : Nat) (h0 : 0 < d) (h : d < 18446744073709551616) : d < 2 ^ Lib.bitLen d ∧ 2 ^ (Lib.bitLen d - 1) ≤ d ∧ 1 ≤ Lib.bitLen d ∧ Lib.bitLen d ≤ 64 := by
  obtain ⟨a, b, c⟩ := bitLenAux_spec 64 d (by omega)
  exact ⟨a, (b h0).1, (b h0).2, c⟩

/-- the facts of one row of the table, for the powers at which a number of 19 digits may pass the threshold -/
def rowOk (p : Nat) : Bool :=
  let lp := p * 108853 / 32768
  let r := Go.Pinned.pow10Rows.getD (p + 348) (0, 0)
  let pm := r.1 * 2 ^ 64 - r.2
  decide (960 ≤ lp) && decide (lp ≤ 1029) && decide (10 ^ p ≤ pm * 2 ^ (lp - 127)) && decide ((pm - 1) * 2 ^ (lp - 127) < 10 ^ p) && decide (2 ^ 63 + 2 ≤ r.1) && decide (r.1 < 2 ^ 64 - 2 ^ 12) && decide (r.2 < 2 ^ 64) &&
    decide (p2 898 ≤ thr % 10 ^ p) && (decide (1023 < lp) || decide ((2 ^ (1023 - lp) - 1) * 10 ^ p < thr)) && decide (2 ^ lp ≤ 10 ^ p)
theorem rows22 : ∀ k < 22, rowOk (289 + k) = true := by decide +kernel

structure RowFacts (p : Nat) : Prop where
  lp0 : 960 ≤ p * 108853 / 32768
  lp1 : p * 108853 / 32768 ≤ 1029
  up : 10 ^ p ≤ (pHi p * 2 ^ 64 - pLo p) * 2 ^ (p * 108853 / 32768 - 127)
  dn : (pHi p * 2 ^ 64 - pLo p - 1) * 2 ^ (p * 108853 / 32768 - 127) < 10 ^ p
  h0 : 2 ^ 63 + 2 ≤ pHi p
  h1 : pHi p < 2 ^ 64 - 2 ^ 12
  l1 : pLo p < 2 ^ 64
  gap : p2 898 ≤ thr % 10 ^ p
  below : 1023 < p * 108853 / 32768 ∨ (2 ^ (1023 - p * 108853 / 32768) - 1) * 10 ^ p < thr
  lo : 2 ^ (p * 108853 / 32768) ≤ 10 ^ p
theorem rowFacts (p : Nat) (h0 : 289 ≤ p) (h1 : p ≤ 310) : RowFacts p := by
  have h := rows22 (p - 289) (by omega)
  rw [show 289 + (p - 289) = p by omega] at h
  unfold rowOk at h
  have e1 : ((p : Int) + 348).toNat = p + 348 := by omega
  have eh : (Go.Pinned.pow10Rows.getD (p + 348) (0, 0)).1 = pHi p := by unfold pHi; rw [e1]
  have el : (Go.Pinned.pow10Rows.getD (p + 348) (0, 0)).2 = pLo p := by unfold pLo; rw [e1]
  simp only [eh, el, Bool.and_eq_true, Bool.or_eq_true, decide_eq_true_eq] at h
  obtain ⟨⟨⟨⟨⟨⟨⟨⟨⟨a, b⟩, c⟩, d⟩, e⟩, f⟩, g⟩, k⟩, l⟩, m⟩ := h
  exact ⟨a, b, c, d, e, f, g, k, l, m⟩

theorem or1_ge (q k st : Nat) (hk : k % 2 = 0) (hst : st < 2) : k ≤ (q ||| st) ↔ k ≤ q := by
  have h := or_split q st 1
  have e1 : st / 2 ^ 1 = 0 := by omega
  rw [e1, Nat.or_zero] at h
  have h2 : q % 2 ^ 1 ||| st % 2 ^ 1 < 2 ^ 1 := Nat.or_lt_two_pow (by omega) (by omega)
  constructor <;> intro _ <;> omega

/-- what uscale's word says of the product: at 8 bits dropped -/
theorem usr_ge (x ph pl K : Nat) (hK : K % 512 = 0) (hK0 : 0 < K) (hpl : pl < 2 ^ 64) (hx : x < 2 ^ 64) :
    (K / 256 ≤ usc x ph pl 8 → K * 2 ^ 128 + x * pl < x * ph * 2 ^ 64 + 2 ^ 64) ∧ (K * 2 ^ 128 + x * pl ≤ x * ph * 2 ^ 64 → K / 256 ≤ usc x ph pl 8) := by
  unfold usc usr
  have hq : x * pl < 2 ^ 64 * 2 ^ 64 := Nat.mul_lt_mul'' hx hpl
  generalize x * ph = A at *
  generalize x * pl = B at *
  have hKe : K / 256 % 2 = 0 := by omega
  split
  · rename_i hh
    have hh' : A / 18446744073709551616 / 256 * 256 = A / 18446744073709551616 := hh
    have hb : b2n (decide ((A % 18446744073709551616 + 18446744073709551616 - B / 18446744073709551616) % 18446744073709551616 > 1)) < 2 := by unfold b2n; split <;> decide
    rw [or1_ge _ _ _ hKe hb]
    unfold b2n
    by_cases hlt : A % 18446744073709551616 < B / 18446744073709551616
    · rw [if_pos (by simpa using hlt)]
      constructor <;> intro _ <;> omega
    · rw [if_neg (by simpa using hlt)]
      constructor <;> intro _ <;> omega
  · rename_i hh
    have hh' : ¬ A / 18446744073709551616 / 256 * 256 = A / 18446744073709551616 := hh
    rw [or1_ge _ _ _ hKe (by decide)]
    constructor <;> intro _ <;> omega

/-- whether parseFloat64 errs -/
def pfOver (d : Nat) (p : Int) : Prop := ¬ 64 ≤ pfS (Lib.bitLen d) p ∧ (4503599627370496 ≤ pfM (pfU d (Lib.bitLen d) p) ∧ pfM (pfU d (Lib.bitLen d) p) < 9007199254740992) ∧ 972 ≤ -(pfE (Lib.bitLen d) p - pfSh (pfU d (Lib.bitLen d) p))

theorem sh_lt (u : Nat) : pfSh u < 2 := by unfold pfSh b2n; split <;> omega

theorem over_low (d : Nat) (p : Int) (h0 : 0 < d) (hd : d < 18446744073709551616) (hp0 : -345 ≤ p) (hp : p ≤ 288) : ¬ pfOver d p := by
  intro ⟨_, _, h⟩
  obtain ⟨_, _, b1, b2⟩ := bitLen_spec d h0 hd
  have := sh_lt (pfU d (Lib.bitLen d) p)
  generalize pfSh (pfU d (Lib.bitLen d) p) = sh at *
  generalize Lib.bitLen d = b at *
  unfold pfE at h
  omega

/-- u of one of the 22 rows lies high enough, and not too high -/
theorem u_range (x : Nat) (p : Nat) (F : RowFacts p) (hx : 2 ^ 63 ≤ x) (hx' : x < 2 ^ 64) : 2 ^ 54 ≤ usc x (pHi p) (pLo p) 8 ∧ usc x (pHi p) (pLo p) 8 < 2 ^ 56 - 8 := by
  have hq : x * pLo p < 2 ^ 64 * 2 ^ 64 := Nat.mul_lt_mul'' hx' F.l1
  have h1 : 2 ^ 63 * (2 ^ 63 + 2) ≤ x * pHi p := Nat.mul_le_mul hx F.h0
  have h2 : x * pHi p ≤ (2 ^ 64 - 1) * (2 ^ 64 - 2 ^ 12) := Nat.mul_le_mul (by omega) (by have := F.h1; omega)
  unfold usc usr
  generalize x * pHi p = A at *
  generalize x * pLo p = B at *
  have hor : ∀ q st : Nat, st < 2 → q ≤ q ||| st ∧ q ||| st ≤ q + 1 := by
    intro q st hst
    have h := or_split q st 1
    have e1 : st / 2 ^ 1 = 0 := by omega
    rw [e1, Nat.or_zero] at h
    have h2 : q % 2 ^ 1 ||| st % 2 ^ 1 < 2 ^ 1 := Nat.or_lt_two_pow (by omega) (by omega)
    have h3 : q % 2 ^ 1 ≤ q % 2 ^ 1 ||| st % 2 ^ 1 := Nat.left_le_or
    omega
  split
  · have hb : b2n (decide ((A % 18446744073709551616 + 18446744073709551616 - B / 18446744073709551616) % 18446744073709551616 > 1)) < 2 := by unfold b2n; split <;> decide
    have hb2 : b2n (decide (A % 18446744073709551616 < B / 18446744073709551616)) < 2 := by unfold b2n; split <;> decide
    have := hor ((A / 18446744073709551616 - b2n (decide (A % 18446744073709551616 < B / 18446744073709551616))) / 2 ^ 8) _ hb
    omega
  · have := hor (A / 18446744073709551616 / 2 ^ 8) 1 (by decide)
    omega

theorem m_range (u : Nat) (h0 : 2 ^ 54 ≤ u) (h1 : u < 2 ^ 56 - 8) : 4503599627370496 ≤ pfM u ∧ pfM u < 9007199254740992 := by
  unfold pfM pfSh b2n
  by_cases h : 36028797018963966 ≤ u
  · rw [if_pos (by simpa using h)]
    have e := or_split (u / 2 ^ 1) (u % 2) 1
    have e1 : u % 2 / 2 ^ 1 = 0 := by omega
    rw [e1, Nat.or_zero] at e
    have h2 : u / 2 ^ 1 % 2 ^ 1 ||| u % 2 % 2 ^ 1 < 2 ^ 1 := Nat.or_lt_two_pow (by omega) (by omega)
    unfold rnd
    generalize (u / 2 ^ 1 ||| u % 2) = v at *
    omega
  · rw [if_neg (by simpa using h), Nat.pow_zero, Nat.div_one, or_par]
    unfold rnd
    omega

theorem over_high (d p : Nat) (h0 : 0 < d) (hd : d < 18446744073709551616) (hp0 : 289 ≤ p) (hp : p ≤ 310) : pfOver d p ↔ thr ≤ d * 10 ^ p := by
  have F := rowFacts p hp0 hp
  obtain ⟨d1, d2, b1, b2⟩ := bitLen_spec d h0 hd
  obtain ⟨b, eb⟩ : ∃ b, b = Lib.bitLen d := ⟨_, rfl⟩
  obtain ⟨L, eL⟩ : ∃ L, L = p * 108853 / 32768 := ⟨_, rfl⟩
  rw [← eb] at d1 d2 b1 b2
  have F0 := F.lp0
  have F1 := F.lp1
  have Fup := F.up
  have Fdn := F.dn
  have Flo := F.lo
  have Fb := F.below
  rw [← eL] at F0 F1 Fup Fdn Flo Fb
  have hE : pfE b p = 53 - b - L := by unfold pfE; omega
  have hS : pfS b p = 8 := by unfold pfS; rw [hE]; omega
  obtain ⟨X, eX⟩ : ∃ X, X = d * 2 ^ (64 - b) := ⟨_, rfl⟩
  have hp2 : 2 ^ (b - 1) * 2 ^ (64 - b) = 2 ^ 63 := by rw [← Nat.pow_add]; congr 1; omega
  have hp3 : 2 ^ b * 2 ^ (64 - b) = 2 ^ 64 := by rw [← Nat.pow_add]; congr 1; omega
  have hX1 : 2 ^ 63 ≤ X := by rw [eX, ← hp2]; exact Nat.mul_le_mul_right _ d2
  have hX2 : X < 2 ^ 64 := by rw [eX, ← hp3]; exact Nat.mul_lt_mul_of_pos_right d1 (Nat.two_pow_pos _)
  have hU : pfU d b p = usc X (pHi p) (pLo p) 8 := by unfold pfU; rw [hS, ← eX]; rfl
  obtain ⟨u1, u2⟩ := u_range X p F hX1 hX2
  have key : pfOver d p ↔ 1025 ≤ b + L + pfSh (usc X (pHi p) (pLo p) 8) := by
    unfold pfOver
    rw [← eb, hS, hU, hE]
    have := m_range _ u1 u2
    constructor
    · intro h; omega
    · intro h; exact ⟨by omega, this, by omega⟩
  rw [key]
  have hs2 := sh_lt (usc X (pHi p) (pLo p) 8)
  have hthr := thr_le
  rcases Nat.lt_trichotomy (b + L) 1024 with hlt | heq | hgt
  · -- below
    constructor
    · intro h; omega
    · intro h
      exfalso
      have h1 : d ≤ 2 ^ (1023 - L) - 1 := by
        have : 2 ^ b ≤ 2 ^ (1023 - L) := Nat.pow_le_pow_right (by decide) (by omega)
        omega
      have h2 : d * 10 ^ p ≤ (2 ^ (1023 - L) - 1) * 10 ^ p := Nat.mul_le_mul_right _ h1
      rcases Fb with h3 | h3
      · omega
      · exact absurd (Nat.le_trans h h2) (Nat.not_le.2 h3)
  · -- at the edge
    have hPm : X * (pHi p * 2 ^ 64 - pLo p) = X * pHi p * 2 ^ 64 - X * pLo p := by rw [Nat.mul_sub, Nat.mul_assoc]
    have hle : X * pLo p ≤ X * pHi p * 2 ^ 64 := by
      rw [Nat.mul_assoc]
      refine Nat.mul_le_mul_left _ ?_
      have := F.l1
      have := F.h0
      omega
    obtain ⟨g1, g2⟩ := usr_ge X (pHi p) (pLo p) (2 ^ 63 - 512) (by decide) (by decide) F.l1 hX2
    have hsh : pfSh (usc X (pHi p) (pLo p) 8) = 1 ↔ (2 ^ 63 - 512) / 256 ≤ usc X (pHi p) (pLo p) 8 := by
      unfold pfSh b2n
      rw [show (2 ^ 63 - 512) / 256 = 36028797018963966 from rfl]
      by_cases h : 36028797018963966 ≤ usc X (pHi p) (pLo p) 8
      · rw [if_pos (by simpa using h)]; simp [h]
      · rw [if_neg (by simpa using h)]; simp [h]
    have k2 : (1025 ≤ b + L + pfSh (usc X (pHi p) (pLo p) 8)) ↔ (2 ^ 63 - 512) / 256 ≤ usc X (pHi p) (pLo p) 8 := by
      rw [← hsh]; constructor <;> intro _ <;> omega
    rw [k2]
    -- the two products, scaled
    obtain ⟨PM, ePM⟩ : ∃ PM, PM = pHi p * 2 ^ 64 - pLo p := ⟨_, rfl⟩
    rw [← ePM] at hPm Fup Fdn
    have hX3 : X = d * 2 ^ (L - 960) := by rw [eX, show 64 - b = L - 960 by omega]
    have hpw : 2 ^ (L - 960) * p2 833 = 2 ^ (L - 127) := by rw [p2_mul, show L - 960 + 833 = L - 127 by omega]
    have hth : thr = (2 ^ 191 - 2 ^ 137) * p2 833 := by decide +kernel
    have h10 : (2 ^ 191 - 2 ^ 137 - 2 ^ 65) * p2 833 = thr - p2 898 := by decide +kernel
    have hC0 : 0 < p2 833 := p2_pos _
    have hD0 : 0 < p2 898 := p2_pos _
    have hgap := F.gap
    generalize p2 833 = C at *
    generalize p2 898 = D at *
    obtain ⟨t1, et1⟩ : ∃ t1, t1 = 2 ^ (L - 960) := ⟨_, rfl⟩
    obtain ⟨t2, et2⟩ : ∃ t2, t2 = 2 ^ (L - 127) := ⟨_, rfl⟩
    rw [← et1, ← et2] at hpw
    rw [← et2] at Fup Fdn
    rw [← et1] at hX3
    have hXP : X * PM * C = d * (PM * t2) := by
      rw [hX3, ← hpw]
      simp only [Nat.mul_assoc, Nat.mul_comm, Nat.mul_left_comm]
    have hPM0 : 0 < PM := by
      rw [ePM]
      have := F.l1
      have := F.h0
      omega
    have hXP1 : X * (PM - 1) * C = d * ((PM - 1) * t2) := by
      rw [hX3, ← hpw]
      simp only [Nat.mul_assoc, Nat.mul_comm, Nat.mul_left_comm]
    have hle1 : d * 10 ^ p ≤ X * PM * C := by rw [hXP]; exact Nat.mul_le_mul_left _ Fup
    have hle2 : X * (PM - 1) * C ≤ d * 10 ^ p := by rw [hXP1]; exact Nat.mul_le_mul_left _ (Nat.le_of_lt Fdn)
    have hXs : X * (PM - 1) = X * PM - X := by rw [Nat.mul_sub, Nat.mul_one]
    rw [hXs] at hle2
    constructor
    · intro h
      have h3 := g1 h
      refine Decidable.byContradiction fun hn => ?_
      -- d * 10^p stays a gap below
      have hq : d * 10 ^ p ≤ thr - thr % 10 ^ p := by
        have : d ≤ thr / 10 ^ p := by
          refine (Nat.le_div_iff_mul_le (Nat.pow_pos (by decide))).2 (by omega)
        have h5 : d * 10 ^ p ≤ thr / 10 ^ p * 10 ^ p := Nat.mul_le_mul_right _ this
        have h6 := Nat.div_add_mod' thr (10 ^ p)
        omega
      have h7 : 2 ^ 191 - 2 ^ 137 < X * PM + 2 ^ 64 := by
        rw [hPm]; omega
      have h8 : 2 ^ 191 - 2 ^ 137 - 2 ^ 65 < X * PM - X := by omega
      have h9 : (2 ^ 191 - 2 ^ 137 - 2 ^ 65) * C < (X * PM - X) * C := Nat.mul_lt_mul_of_pos_right h8 hC0
      omega
    · intro h
      refine g2 ?_
      have h3 : (2 ^ 191 - 2 ^ 137) * C ≤ X * PM * C := by rw [← hth]; omega
      have h4 : 2 ^ 191 - 2 ^ 137 ≤ X * PM := Nat.le_of_mul_le_mul_right h3 hC0
      rw [hPm] at h4
      omega
  · -- above
    constructor
    · intro _
      have h1 : 2 ^ (b - 1) * 2 ^ L ≤ d * 10 ^ p := Nat.mul_le_mul d2 Flo
      rw [← Nat.pow_add] at h1
      have h2 : p2 1024 ≤ 2 ^ (b - 1 + L) := p2_le _ _ (by omega)
      exact Nat.le_trans hthr (Nat.le_trans h2 h1)
    · intro _; omega

/-- d * 10^p rounds to infinity -/
def big (d : Nat) (p : Int) : Prop := 0 ≤ p ∧ thr ≤ d * 10 ^ p.toNat

theorem over_iff (d : Nat) (p : Int) (h0 : 0 < d) (hd : d < 18446744073709551616) (hp0 : -345 ≤ p) (hp : p ≤ 310) : pfOver d p ↔ big d p := by
  by_cases h : p ≤ 288
  · have h1 := over_low d p h0 hd hp0 h
    refine ⟨fun h2 => absurd h2 h1, fun ⟨h2, h3⟩ => ?_⟩
    exfalso
    have h4 : d * 10 ^ p.toNat ≤ 18446744073709551616 * p10 288 := Nat.mul_le_mul (Nat.le_of_lt hd) (p10_le _ _ (by omega))
    have h5 : 18446744073709551616 * p10 288 < thr := by decide +kernel
    omega
  · obtain ⟨k, rfl⟩ : ∃ k : Nat, p = k := ⟨p.toNat, by omega⟩
    rw [over_high d k h0 hd (by omega) (by omega)]
    unfold big
    simp

/-- What parseFloat64 hands back. -/
def PF (d : Nat) (p : Int) (bits : Nat) (v : Value) : Prop :=
  (v = .iface 79 (.int .i64 1) ∧ bits % 9223372036854775808 = infPos ∧ big d p) ∨ (v = .nilIface ∧ bits % 9223372036854775808 < infPos ∧ ¬ big d p)

theorem sgn_mod (neg : Bool) (x : Nat) (h : x < 9223372036854775808) : (sgn neg + x) % 9223372036854775808 = x := by
  cases neg <;> simp [sgn] <;> omega

def PFPost (d : Nat) (p : Int) (w : World) (e : Ending) (w' : World) : Prop := ∃ bits v, e = .returned (.tuple #[.float .f64 bits, v]) ∧ PF d p bits v ∧ Below w.heap.size w w'

theorem parse64_ok (neg : Bool) (d : Nat) (p : Int) (w : World) (hd0 : 0 < d) (hd : d < 18446744073709551616) (hp : -345 ≤ p) (hp' : p ≤ 310) (hsz : 14 < w.heap.size) (ht : Pow10At w) :
    Calls Tryz.prog 78 #[.int .u64 d, .int .i64 p, .int .u64 (sgn neg)] w (PFPost d p w) := by
  obtain ⟨d1, d2, b1, b2⟩ := bitLen_spec d hd0 hd
  have hov := over_iff d p hd0 hd hp hp'
  have hlen : ∀ w, Calls Tryz.prog 104 #[.int .u64 d] w fun e w' => e = .returned (.int .i64 (Lib.bitLen d)) ∧ w = w' := fun w =>
    (Tryz.bits_Len64 d w (by omega) (by omega)).mono fun _ _ h => ⟨by simpa using h.1, h.2.symm⟩
  by_cases hs : 64 ≤ pfS (Lib.bitLen d) p
  · refine (parse64_core neg d _ p w hd b1 b2 hp hp' hsz ht hlen hs).mono fun e w' h => ⟨_, _, h.1, Or.inr ⟨rfl, ?_, ?_⟩, h.2⟩
    · have := sgn_mod neg 0 (by decide)
      rw [Nat.add_zero] at this
      rw [this]; decide
    · rw [← hov]; exact fun h => h.1 hs
  · refine (parse64_main neg d _ p w hd b1 b2 d2 d1 hp hp' hsz ht hlen (by omega)).mono fun e w' h => ⟨_, _, h.1, ?_, h.2⟩
    have hE : pfE (Lib.bitLen d) p ≤ 1074 ∧ -1100 ≤ pfE (Lib.bitLen d) p := by unfold pfE; omega
    have hsh := sh_lt (pfU d (Lib.bitLen d) p)
    have hXl : d * 2 ^ (64 - Lib.bitLen d) < 18446744073709551616 := by
      have hp3 : 2 ^ Lib.bitLen d * 2 ^ (64 - Lib.bitLen d) = 2 ^ 64 := by rw [← Nat.pow_add, show Lib.bitLen d + (64 - Lib.bitLen d) = 64 by omega]
      have := Nat.mul_lt_mul_of_pos_right d1 (Nat.two_pow_pos (64 - Lib.bitLen d))
      omega
    have hm := (pfM_le (pfU d (Lib.bitLen d) p) (usc_lt _ _ _ _ (by unfold pfS pfE; omega) hXl (pRow p (by omega) (by omega)).2.1)).1
    by_cases ho : pfOver d p
    · obtain ⟨o1, o2, o3⟩ := ho
      refine Or.inl ⟨if_pos ⟨o2, o3⟩, ?_, hov.1 ⟨o1, o2, o3⟩⟩
      unfold packBits
      rw [if_pos o2, if_pos o3]
      exact sgn_mod neg _ (by decide)
    · have hn : ¬ ((4503599627370496 ≤ pfM (pfU d (Lib.bitLen d) p) ∧ pfM (pfU d (Lib.bitLen d) p) < 9007199254740992) ∧ 972 ≤ -(pfE (Lib.bitLen d) p - pfSh (pfU d (Lib.bitLen d) p))) := fun h => ho ⟨hs, h.1, h.2⟩
      refine Or.inr ⟨if_neg hn, ?_, fun h => ho (hov.2 h)⟩
      unfold packBits
      split
      · rename_i h1
        rw [if_neg fun h => hn ⟨h1, h⟩]
        have h2 : ¬ 972 ≤ -(pfE (Lib.bitLen d) p - pfSh (pfU d (Lib.bitLen d) p)) := fun h => hn ⟨h1, h⟩
        rw [Nat.add_assoc, sgn_mod neg _ (by omega)]
        unfold infPos
        omega
      · rw [sgn_mod neg _ (by omega)]
        unfold infPos
        omega
end Go.Proofs.YtdfbokmjipdolaaGreatDoor
/- Plain law: atofHex errs exactly from the threshold on. -/
namespace Go.Proofs.YtdfbokmjipdolaaGreatDoor
open Go.RowKit

/-- m * 2^x rounds to infinity (m below 2^64) -/
def bigX (m : Nat) (x : Int) : Prop := 0 ≤ x ∧ thr ≤ m * 2 ^ x.toNat

theorem le_p2 (a b : Nat) (h : a ≤ b) : 2 ^ a ≤ p2 b := Nat.pow_le_pow_right (by decide) h
theorem p2_eq (a b : Nat) (h : a = b) : 2 ^ a = p2 b := by rw [h]; rfl
theorem thr_hex : thr = (2 ^ 55 - 2) * p2 969 := by decide +kernel
theorem thr_1023 : p2 1023 < thr := by decide +kernel
theorem thr_128 : p2 128 < thr := by decide +kernel

/-- the heart: m * 2^j = M1 is cut to M2 by j2 places; X2 is the place. -/
theorem hex_core (m : Nat) (x : Int) (M1 M2 : Nat) (X2 : Int) (j j2 : Nat) (hm : m < 2 ^ 64) (hM1 : m * 2 ^ j = M1) (hX : X2 = x + 52 - j + j2) (hj : j ≤ 64) (hj2 : j2 ≤ 9)
    (ev : ∀ K : Nat, 2 * K ≤ M2 ↔ 2 * K * 2 ^ j2 ≤ M1) (lo : 2 ^ 54 ≤ M2) (hi : M2 < 2 ^ 55) :
    bigX m x ↔ (1022 ≤ X2 ∨ (X2 = 1021 ∧ 2 ^ 55 - 2 ≤ M2)) := by
  have e54 := (ev (2 ^ 53)).1 (by omega)
  have e55 : M1 < 2 * 2 ^ 54 * 2 ^ j2 := Nat.lt_of_not_le fun h => by have := (ev (2 ^ 54)).2 h; omega
  have ee := ev (2 ^ 54 - 1)
  have pj2 : 0 < 2 ^ j2 := Nat.two_pow_pos _
  -- the value, where the place is high
  have val : ∀ y : Nat, x = (y : Int) → j ≤ y → m * 2 ^ y = M1 * 2 ^ (y - j) := fun y _ hy => by
    rw [← hM1, Nat.mul_assoc, ← Nat.pow_add, show j + (y - j) = y by omega]
  rcases Int.lt_trichotomy X2 1021 with h | h | h
  · constructor
    · rintro ⟨h0, hb⟩
      exfalso
      obtain ⟨y, hy⟩ : ∃ y : Nat, x = y := ⟨x.toNat, by omega⟩
      have hyt : x.toNat = y := by omega
      rw [hyt] at hb
      by_cases hyj : j ≤ y
      · rw [val y hy hyj] at hb
        have h1 : M1 * 2 ^ (y - j) < 2 * 2 ^ 54 * 2 ^ j2 * 2 ^ (y - j) := Nat.mul_lt_mul_of_pos_right e55 (Nat.two_pow_pos _)
        have h2 : 2 * 2 ^ 54 * 2 ^ j2 * 2 ^ (y - j) = 2 ^ (55 + j2 + (y - j)) := by
          rw [show 2 * 2 ^ 54 = 2 ^ 55 from rfl, ← Nat.pow_add, ← Nat.pow_add]
        have h3 : 2 ^ (55 + j2 + (y - j)) ≤ p2 1023 := le_p2 _ _ (by omega)
        have := thr_1023
        omega
      · have h1 : m * 2 ^ y < 2 ^ 64 * 2 ^ y := Nat.mul_lt_mul_of_pos_right hm (Nat.two_pow_pos _)
        have h2 : 2 ^ 64 * 2 ^ y ≤ p2 128 := by rw [← Nat.pow_add]; exact le_p2 _ _ (by omega)
        have := thr_128
        omega
    · omega
  · obtain ⟨y, hy⟩ : ∃ y : Nat, x = y := ⟨x.toNat, by omega⟩
    have hyt : x.toNat = y := by omega
    have hyj : j ≤ y := by omega
    have e2 : 2 ^ j2 * 2 ^ (y - j) = p2 969 := by rw [← Nat.pow_add]; exact p2_eq _ _ (by omega)
    have pp : 0 < 2 ^ (y - j) := Nat.two_pow_pos _
    have key : thr ≤ m * 2 ^ y ↔ 2 * (2 ^ 54 - 1) * 2 ^ j2 ≤ M1 := by
      rw [val y hy hyj, thr_hex, ← e2, ← Nat.mul_assoc]
      exact ⟨fun h => Nat.le_of_mul_le_mul_right h pp, fun h => Nat.mul_le_mul_right _ h⟩
    unfold bigX
    rw [hyt, key, ← ee]
    constructor
    · intro ⟨_, h2⟩; exact Or.inr ⟨h, by omega⟩
    · intro h2; exact ⟨by omega, by omega⟩
  · constructor
    · intro _; exact Or.inl (by omega)
    · intro _
      obtain ⟨y, hy⟩ : ∃ y : Nat, x = y := ⟨x.toNat, by omega⟩
      have hyt : x.toNat = y := by omega
      have hyj : j ≤ y := by omega
      refine ⟨by omega, ?_⟩
      rw [hyt, val y hy hyj]
      have h1 : 2 * 2 ^ 53 * 2 ^ j2 * 2 ^ (y - j) ≤ M1 * 2 ^ (y - j) := Nat.mul_le_mul_right _ e54
      have h2 : 2 * 2 ^ 53 * 2 ^ j2 * 2 ^ (y - j) = 2 ^ (54 + j2 + (y - j)) := by
        rw [show 2 * 2 ^ 53 = 2 ^ 54 from rfl, ← Nat.pow_add, ← Nat.pow_add]
      have h3 : p2 1024 ≤ 2 ^ (54 + j2 + (y - j)) := p2_le _ _ (by omega)
      have := thr_le
      omega
end Go.Proofs.YtdfbokmjipdolaaGreatDoor
