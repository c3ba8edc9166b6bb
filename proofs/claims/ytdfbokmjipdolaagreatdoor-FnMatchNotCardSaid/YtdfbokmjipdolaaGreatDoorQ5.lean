/- Texts of the proof, joined: C1, C2, C3, C4, C5, C7. -/
import Derived.Test.YtdfbokmjipdolaaGreatDoorQ4
import Derived.Deep.Draws
import Derived.BigQuiet
import Derived.Deep.QuietTactic
import Derived.Deep.DeepCutAuto
import Derived.Deep.CutBlock
import Derived.Lib.Hide
import Derived.Lib.Strings
set_option linter.unusedVariables false
set_option linter.unusedSimpArgs false
/- Go's decimal number in memory: its cells, and what a read, a store and a draw make of them. -/
namespace Go.Proofs.YtdfbokmjipdolaaGreatDoor
open Go.RowKit

/-- the cells of a decimal: 800 digits, how many count, the place of the point, sign, whether digits were lost -/
def dC (d : Array Nat) (nd dp : Int) (ng tr : Bool) : Array Value := d.map (fun v : Nat => Value.int .u8 v) ++ #[.int .i64 nd, .int .i64 dp, .bool ng, .bool tr]
/-- the world in which block b is such a decimal -/
def wD (w : World) (b : Nat) (t : TypeId) (d : Array Nat) (nd dp : Int) (ng tr : Bool) : World := { w with heap := w.heap.setIfInBounds b (.cells (dC d nd dp ng tr) t) }

variable {w : World} {b : Nat} {t : TypeId} {d : Array Nat} {nd dp : Int} {ng tr : Bool}
theorem dC_size (hd : d.size = 800) : (dC d nd dp ng tr).size = 804 := by simp [dC, hd]
theorem dC_lo {i : Nat} (hd : d.size = 800) (h : i < 800) : (dC d nd dp ng tr)[i]? = some (.int .u8 (d.getD i 0)) := by
  unfold dC
  rw [Array.getElem?_append_left (by simp [hd]; omega)]
  simp [Array.getD, hd, h]
theorem dC_nd (hd : d.size = 800) : (dC d nd dp ng tr)[800]? = some (.int .i64 nd) := by
  unfold dC; rw [Array.getElem?_append_right (by simp [hd])]; simp [hd]
theorem dC_dp (hd : d.size = 800) : (dC d nd dp ng tr)[801]? = some (.int .i64 dp) := by
  unfold dC; rw [Array.getElem?_append_right (by simp [hd])]; simp [hd]
theorem dC_ng (hd : d.size = 800) : (dC d nd dp ng tr)[802]? = some (.bool ng) := by
  unfold dC; rw [Array.getElem?_append_right (by simp [hd])]; simp [hd]
theorem dC_tr (hd : d.size = 800) : (dC d nd dp ng tr)[803]? = some (.bool tr) := by
  unfold dC; rw [Array.getElem?_append_right (by simp [hd])]; simp [hd]
theorem set_lo {i : Nat} {v : Nat} (hd : d.size = 800) (h : i < 800) : (dC d nd dp ng tr).setIfInBounds i (.int .u8 v) = dC (d.setIfInBounds i v) nd dp ng tr := by
  unfold dC
  rw [Array.setIfInBounds_append_left (by simp [hd]; omega), ← Array.map_setIfInBounds]
theorem set_hi {j : Nat} {v : Value} (hd : d.size = 800) : (dC d nd dp ng tr).setIfInBounds (800 + j) v = d.map (fun v : Nat => Value.int .u8 v) ++ (#[Value.int .i64 nd, .int .i64 dp, .bool ng, .bool tr].setIfInBounds j v) := by
  unfold dC
  rw [Array.setIfInBounds_append_right (by simp [hd])]; simp [hd]
theorem set_nd {v : Int} (hd : d.size = 800) : (dC d nd dp ng tr).setIfInBounds 800 (.int .i64 v) = dC d v dp ng tr := set_hi (j := 0) hd
theorem set_dp {v : Int} (hd : d.size = 800) : (dC d nd dp ng tr).setIfInBounds 801 (.int .i64 v) = dC d nd v ng tr := set_hi (j := 1) hd
theorem set_ng {v : Bool} (hd : d.size = 800) : (dC d nd dp ng tr).setIfInBounds 802 (.bool v) = dC d nd dp v tr := set_hi (j := 2) hd
theorem set_tr {v : Bool} (hd : d.size = 800) : (dC d nd dp ng tr).setIfInBounds 803 (.bool v) = dC d nd dp ng v := set_hi (j := 3) hd

theorem wD_at (hb : b < w.heap.size) : (wD w b t d nd dp ng tr).heap[b]? = some (.cells (dC d nd dp ng tr) t) := by simp [wD, hb]
theorem wD_ne {a : Nat} (h : a ≠ b) : (wD w b t d nd dp ng tr).heap[a]? = w.heap[a]? := by simp [wD, Array.getElem?_setIfInBounds_ne (Ne.symm h)]
theorem cell_at (hb : b < w.heap.size) {i : Nat} : (wD w b t d nd dp ng tr).cell? ⟨b, i, none⟩ = (dC d nd dp ng tr)[i]? := by
  unfold World.cell?
  rw [show ({ block := b, off := i, spot := none } : Addr).block = b from rfl, wD_at hb]; rfl
@[go_sem] theorem cell_nd (hb : b < w.heap.size) (hd : d.size = 800) : (wD w b t d nd dp ng tr).cell? ⟨b, 800, none⟩ = some (.int .i64 nd) := by rw [cell_at hb, dC_nd hd]
@[go_sem] theorem cell_dp (hb : b < w.heap.size) (hd : d.size = 800) : (wD w b t d nd dp ng tr).cell? ⟨b, 801, none⟩ = some (.int .i64 dp) := by rw [cell_at hb, dC_dp hd]
@[go_sem] theorem cell_ng (hb : b < w.heap.size) (hd : d.size = 800) : (wD w b t d nd dp ng tr).cell? ⟨b, 802, none⟩ = some (.bool ng) := by rw [cell_at hb, dC_ng hd]
@[go_sem] theorem cell_tr (hb : b < w.heap.size) (hd : d.size = 800) : (wD w b t d nd dp ng tr).cell? ⟨b, 803, none⟩ = some (.bool tr) := by rw [cell_at hb, dC_tr hd]
theorem cell_lo (hb : b < w.heap.size) (hd : d.size = 800) {i : Nat} (h : i < 800) : (wD w b t d nd dp ng tr).cell? ⟨b, i, none⟩ = some (.int .u8 (d.getD i 0)) := by rw [cell_at hb, dC_lo hd h]
theorem cell_ne {a : Addr} (h : a.block ≠ b) : (wD w b t d nd dp ng tr).cell? a = w.cell? a := by unfold World.cell?; rw [wD_ne h]
@[go_sem] theorem frozen_at (hb : b < w.heap.size) {i : Nat} : (wD w b t d nd dp ng tr).frozen? ⟨b, i, none⟩ = false := by
  unfold World.frozen?
  rw [show ({ block := b, off := i, spot := none } : Addr).block = b from rfl, wD_at hb]
  simp
theorem modify_set {α : Type} (a : Array α) (b : Nat) (x : α) (f : α → α) : (a.setIfInBounds b x).modify b f = a.setIfInBounds b (f x) := by
  apply Array.ext_getElem?
  intro k
  rw [Array.getElem?_modify]
  by_cases h : b = k
  · subst h
    rw [if_pos rfl]
    by_cases hb : b < a.size
    · simp [hb]
    · simp [hb]
  · rw [if_neg h, Array.getElem?_setIfInBounds_ne h, Array.getElem?_setIfInBounds_ne h]
theorem set_at {i : Nat} {v : Value} : (wD w b t d nd dp ng tr).setCell ⟨b, i, none⟩ v = { w with heap := w.heap.setIfInBounds b (.cells ((dC d nd dp ng tr).setIfInBounds i v) t) } := by
  unfold World.setCell wD
  simp only [modify_set]
  simp
@[go_sem] theorem put_nd {v : Int} (hd : d.size = 800) : (wD w b t d nd dp ng tr).setCell ⟨b, 800, none⟩ (.int .i64 v) = wD w b t d v dp ng tr := by rw [set_at, set_nd hd]; rfl
@[go_sem] theorem put_dp {v : Int} (hd : d.size = 800) : (wD w b t d nd dp ng tr).setCell ⟨b, 801, none⟩ (.int .i64 v) = wD w b t d nd v ng tr := by rw [set_at, set_dp hd]; rfl
@[go_sem] theorem put_ng {v : Bool} (hd : d.size = 800) : (wD w b t d nd dp ng tr).setCell ⟨b, 802, none⟩ (.bool v) = wD w b t d nd dp v tr := by rw [set_at, set_ng hd]; rfl
@[go_sem] theorem put_tr {v : Bool} (hd : d.size = 800) : (wD w b t d nd dp ng tr).setCell ⟨b, 803, none⟩ (.bool v) = wD w b t d nd dp ng v := by rw [set_at, set_tr hd]; rfl
theorem put_lo {i : Nat} {v : Nat} (hd : d.size = 800) (h : i < 800) : (wD w b t d nd dp ng tr).setCell ⟨b, i, none⟩ (.int .u8 v) = wD w b t (d.setIfInBounds i v) nd dp ng tr := by rw [set_at, set_lo hd h]; rfl
theorem wD_drewN (n : Nat) : (wD w b t d nd dp ng tr).drewN n = wD (w.drewN n) b t d nd dp ng tr := rfl
theorem wD_drew : (wD w b t d nd dp ng tr).drew = wD (w.drewN 1) b t d nd dp ng tr := rfl

/-- the same world but for draws -/
def Dr (w w1 : World) : Prop := ∃ q, w1 = w.drewN q
theorem Dr.rfl' (w : World) : Dr w w := ⟨0, rfl⟩
theorem Dr.more {w w1 : World} (h : Dr w w1) (n : Nat) : Dr w (w1.drewN n) := by obtain ⟨q, rfl⟩ := h; exact ⟨q + n, by rw [World.drewN_drewN]⟩
theorem Dr.trans {w w1 w2 : World} (h : Dr w w1) (h2 : Dr w1 w2) : Dr w w2 := by obtain ⟨q, rfl⟩ := h2; exact h.more q
theorem Dr.size {w w1 : World} (h : Dr w w1) : w1.heap.size = w.heap.size := by obtain ⟨q, rfl⟩ := h; rfl
theorem Dr.cell {w w1 : World} (h : Dr w w1) (a : Addr) : w1.cell? a = w.cell? a := by obtain ⟨q, rfl⟩ := h; rfl

/-- the first n digits as a number -/
def dv (d : Array Nat) : Nat → Nat
  | 0 => 0
  | n + 1 => dv d n * 10 + (d.getD n 0 - 48)
def dOk (d : Array Nat) (n : Nat) : Prop := d.size = 800 ∧ n ≤ 800 ∧ ∀ i < n, 48 ≤ d.getD i 0 ∧ d.getD i 0 ≤ 57
theorem dv_set (d : Array Nat) (n i v : Nat) (h : n ≤ i) : dv (d.setIfInBounds i v) n = dv d n := by
  induction n with
  | zero => rfl
  | succ n ih =>
    rw [dv, dv, ih (by omega)]
    simp only [Array.getD_eq_getD_getElem?]
    rw [Array.getElem?_setIfInBounds_ne (by omega)]
theorem dv_lt (d : Array Nat) (n : Nat) (h : ∀ i < n, 48 ≤ d.getD i 0 ∧ d.getD i 0 ≤ 57) : dv d n < 10 ^ n := by
  induction n with
  | zero => simp [dv]
  | succ n ih =>
    have := ih fun i hi => h i (by omega)
    have h2 := h n (by omega)
    rw [dv, Nat.pow_succ]; omega
end Go.Proofs.YtdfbokmjipdolaaGreatDoor
/- trim of Go's own decimal. -/
namespace Go.Proofs.YtdfbokmjipdolaaGreatDoor
open Go.RowKit


def TrimPost (w : World) (b : Nat) (t : TypeId) (d : Array Nat) (n : Nat) (dp : Int) (ng tr : Bool) (e : Ending) (w' : World) : Prop :=
  e = .returned (.tuple #[]) ∧ ∃ (w1 : World) (n' : Nat), Dr w w1 ∧ n' ≤ n ∧ dv d n = dv d n' * 10 ^ (n - n') ∧ w' = wD w1 b t d n' (if n' = 0 then 0 else dp) ng tr

set_option maxRecDepth 100000 in
theorem trim_any (w : World) (b : Nat) (t : TypeId) (d : Array Nat) (n : Nat) (dp : Int) (ng tr : Bool) (hb : b < w.heap.size) (hs : d.size = 800) (hn : n ≤ 800) :
    Calls Tryz.prog 133 #[.pointer (some ⟨b, 0, none⟩)] (wD w b t d n dp ng tr) (TrimPost w b t d n dp ng tr) := by
  go_enter Tryz.func133, Tryz.ntmps133
  go_wp2_with fail
  go_loopg [] n (fun g w1 => ∃ wq : World, Dr w wq ∧ g ≤ n ∧ dv d n = dv d g * 10 ^ (n - g) ∧ w1 = wD wq b t d g dp ng tr)
  case atStart => exact ⟨w, Dr.rfl' w, Nat.le_refl _, by simp, rfl⟩
  case round =>
    obtain ⟨wq, hwq, hg, HH, rfl⟩ := hrel
    have H := Lib.hid HH
    clear HH
    have hb' : b < wq.heap.size := by rw [hwq.size]; exact hb
    have Hwq := Lib.hid hwq
    clear hwq
    obtain ⟨W, hW⟩ : ∃ W, W = wD wq b t d gk dp ng tr := ⟨_, rfl⟩
    obtain ⟨N, hN⟩ : ∃ N : Int, N = gk := ⟨_, rfl⟩
    have bN : 0 ≤ N ∧ N ≤ 800 := by omega
    have c0 : W.cell? ⟨b, 800, none⟩ = some (.int .i64 N) := by rw [hW, hN]; exact cell_nd hb' hs
    rw [← hW]
    cases gk with
    | zero =>
      have hN' : N = 0 := by omega
      subst hN'
      clear hN
      have HW := Lib.hid hW
      clear hW
      go_wp2_with fail
      go_quiet (fail)
      rw [HW.out, wD_drewN]
      obtain ⟨w1, hw1⟩ : ∃ w1, w1 = wq.drewN nq := ⟨_, rfl⟩
      rw [← hw1]
      have hb1 : b < w1.heap.size := by rw [hw1]; exact hb'
      have hD : Dr w w1 := by rw [hw1]; exact Hwq.out.more _
      clear hw1 c0 HW hb'
      go_wp2_with fail
      first | (refine bodyPost_end (results_none rfl _ _ _) rfl ?_) | (refine bodyPost_ret (results_none rfl _ _ _) rfl ?_)
      exact ⟨rfl, w1, 0, hD, hg, H.out, by simp⟩
    | succ k =>
      have hk : k < 800 := by omega
      obtain ⟨v, hv⟩ : ∃ v, v = d.getD k 0 := ⟨_, rfl⟩
      have hc : W.cell? ⟨b, k, none⟩ = some (.int .u8 v) := by rw [hv, hW]; exact cell_lo hb' hs hk
      have hv48 := Lib.hid hv
      clear hv
      have HW := Lib.hid hW
      clear hW
      have g0 : decide ((0 : Int) < N) = true := by simp; omega
      have e1 : (N - 1).toNat = k := by omega
      by_cases q48 : ((v : Int) == 48) = true
      · go_wp2_with fail
        go_quiet (fail)
        rw [HW.out, wD_drewN]
        obtain ⟨w1, hw1⟩ : ∃ w1, w1 = wq.drewN nq := ⟨_, rfl⟩
        rw [← hw1]
        have hb1 : b < w1.heap.size := by rw [hw1]; exact hb'
        have hD : Dr w w1 := by rw [hw1]; exact Hwq.out.more _
        clear hw1 c0 HW hb' hc
        go_wp2_with fail

        go_roundg k
        case measure => omega
        case rel =>
          have := hv48.out
          have v48 : v = 48 := by have := beq_iff_eq.1 q48; omega
          refine ⟨w1, hD, by omega, ?_, rfl⟩
          rw [H.out, dv, ← this, v48, show n - k = n - (k + 1) + 1 by omega, Nat.pow_succ]
          simp [Nat.mul_assoc, Nat.mul_comm 10]
      · have q48' : ((v : Int) == 48) = false := by simpa using q48
        go_wp2_with fail
        go_quiet (fail)
        rw [HW.out, wD_drewN]
        obtain ⟨w1, hw1⟩ : ∃ w1, w1 = wq.drewN nq := ⟨_, rfl⟩
        rw [← hw1]
        have hb1 : b < w1.heap.size := by rw [hw1]; exact hb'
        have hD : Dr w w1 := by rw [hw1]; exact Hwq.out.more _
        clear hw1 c0 HW hb' hc
        have hk1 : (((k + 1 : Nat) : Int) == 0) = false := by rw [beq_eq_false_iff_ne]; omega
        go_wp2_with fail
        first | (refine bodyPost_end (results_none rfl _ _ _) rfl ?_) | (refine bodyPost_ret (results_none rfl _ _ _) rfl ?_)
        exact ⟨rfl, w1, k + 1, hD, hg, H.out, by simp⟩
end Go.Proofs.YtdfbokmjipdolaaGreatDoor
/- prefixIsLessThan of Go's own decimal. -/
namespace Go.Proofs.YtdfbokmjipdolaaGreatDoor
open Go.RowKit

def pfx (d : Array Nat) (n : Nat) : List Nat → Nat → Bool
  | [], _ => false
  | c :: r, i => if n ≤ i then true else if d.getD i 0 ≠ c then decide (d.getD i 0 < c) else pfx d n r (i + 1)

set_option maxRecDepth 100000 in
theorem pfx_any (w : World) (b : Nat) (t : TypeId) (d : Array Nat) (n cap : Nat) (nd dp : Int) (ng tr : Bool) (s : ByteArray) (hb : b < w.heap.size) (hs : d.size = 800) (hn : n ≤ 800) (hl : s.size ≤ 400) :
    Calls Tryz.prog 132 #[.slice (some ⟨b, 0, none⟩) n cap, .string s] (wD w b t d nd dp ng tr) fun e w' => e = .returned (.bool (pfx d n (bsN s) 0)) ∧ ∃ w1, Dr w w1 ∧ w' = wD w1 b t d nd dp ng tr := by
  go_enter Tryz.func132, Tryz.ntmps132
  go_wp2_with fail
  go_loopg [5] s.size (fun g s5 w1 => ∃ (wq : World) (k : Nat), g = s.size - k ∧ s5 = .int .i64 k ∧ k ≤ s.size ∧ Dr w wq ∧ pfx d n ((bsN s).drop k) k = pfx d n (bsN s) 0 ∧ w1 = wD wq b t d nd dp ng tr)
  case atStart => exact ⟨w, 0, rfl, rfl, Nat.zero_le _, Dr.rfl' w, rfl, rfl⟩
  case round =>
    obtain ⟨wq, k, hg, rfl, hk, hwq, HH, rfl⟩ := hrel
    have H := Lib.hid HH
    clear HH
    have Hg := Lib.hid hg
    clear hg
    have hb' : b < wq.heap.size := by rw [hwq.size]; exact hb
    have Hwq := Lib.hid hwq
    clear hwq
    by_cases hk2 : k < s.size
    · by_cases hkn : k < n
      · obtain ⟨v, hv⟩ : ∃ v, v = d.getD k 0 := ⟨_, rfl⟩
        obtain ⟨W, hW⟩ : ∃ W, W = wD wq b t d nd dp ng tr := ⟨_, rfl⟩
        have hc : W.cell? ⟨b, k, none⟩ = some (.int .u8 v) := by rw [hv, hW]; exact cell_lo hb' hs (by omega)
        have hv48 := Lib.hid hv
        clear hv
        rw [← hW]
        have HW := Lib.hid hW
        clear hW
        by_cases hq : v = s[k].toNat
        · have q : ((v : Int) != s[k].toNat) = false := by simp [hq]
          have Hq := Lib.hid hq
          clear hq
          go_wp2_with fail
          go_quiet (fail)
          go_wp2_with fail
          go_roundg (s.size - (k + 1))
          case measure => have := Hg.out; omega
          case rel =>
            refine ⟨_, k + 1, rfl, vi (by omega), by omega, Hwq.out.more nq, ?_, by rw [HW.out]; rfl⟩
            rw [← H.out, bsN_drop s k hk2, pfx, if_neg (by omega), if_neg (by rw [← hv48.out, Hq.out]; simp)]
        · have q : ((v : Int) != s[k].toNat) = true := by rw [bne_iff_ne]; omega
          have Hq := Lib.hid hq
          clear hq
          go_wp2_with fail
          go_quiet (fail)
          go_wp2_with fail
          go_quiet (fail)
          go_wp2_with fail
          go_ret
          refine ⟨?_, _, (Hwq.out.more _).more _, by rw [HW.out]; rfl⟩
          rw [← H.out, bsN_drop s k hk2, pfx, if_neg (by omega), if_pos (by rw [← hv48.out]; exact Hq.out), ← hv48.out]
          simp
      · go_wp2_with fail
        go_ret
        refine ⟨?_, _, Hwq.out, rfl⟩
        rw [← H.out, bsN_drop s k hk2, pfx, if_pos (by omega)]; rfl
    · go_wp2_with fail
      go_ret
      refine ⟨?_, _, Hwq.out, rfl⟩
      rw [← H.out, bsN_drop_end s k (by omega)]; rfl
end Go.Proofs.YtdfbokmjipdolaaGreatDoor
/- Plain law of the decimal's shift to the left. -/
namespace Go.Proofs.YtdfbokmjipdolaaGreatDoor
open Go.RowKit

/-- a row of Go's table of left shifts: the digits of 5^k, and how many digits a shift by k adds -/
structure LcOk (k dl : Nat) (C : List Nat) : Prop where
  val : num 10 (C.map (· - 48)) = 5 ^ k
  len : C.length + dl = k + 1
  dig : ∀ c ∈ C, 48 ≤ c ∧ c ≤ 57
  last : ∃ B, C = B ++ [53]
  lo : 10 ^ (C.length - 1) ≤ 5 ^ k

/-- a decimal's digits -/
structure DN (d : Array Nat) (n : Nat) : Prop where
  size : d.size = 800
  n0 : 0 < n
  n8 : n ≤ 800
  dig : ∀ i < n, 48 ≤ d.getD i 0 ∧ d.getD i 0 ≤ 57
  lead : d.getD 0 0 ≠ 48

theorem dv_split (d : Array Nat) (i j : Nat) (h : i ≤ j) (hd : ∀ x < j, 48 ≤ d.getD x 0 ∧ d.getD x 0 ≤ 57) : dv d i * 10 ^ (j - i) ≤ dv d j ∧ dv d j < (dv d i + 1) * 10 ^ (j - i) := by
  induction j with
  | zero =>
    have : i = 0 := by omega
    subst this; simp
  | succ j ih =>
    by_cases hij : i = j + 1
    · subst hij; simp
    · obtain ⟨a, b⟩ := ih (by omega) fun x hx => hd x (by omega)
      have := hd j (by omega)
      rw [show j + 1 - i = j - i + 1 by omega, Nat.pow_succ, dv, ← Nat.mul_assoc, ← Nat.mul_assoc]
      omega
theorem DN.low {d : Array Nat} {n : Nat} (h : DN d n) : 10 ^ (n - 1) ≤ dv d n := by
  have h1 := (dv_split d 1 n h.n0 h.dig).1
  have h0 := h.dig 0 h.n0
  have hl := h.lead
  have : 1 ≤ dv d 1 := by simp only [dv]; omega
  exact Nat.le_trans (by simpa using Nat.mul_le_mul_right (10 ^ (n - 1)) this) h1
theorem DN.high {d : Array Nat} {n : Nat} (h : DN d n) : dv d n < 10 ^ n := dv_lt d n h.dig

/-- what prefixIsLessThan says, in numbers: the digits from place i on -/
theorem pfx_num (d : Array Nat) (n : Nat) (hd : ∀ i < n, 48 ≤ d.getD i 0 ∧ d.getD i 0 ≤ 57) (C : List Nat) (hC : ∀ c ∈ C, 48 ≤ c ∧ c ≤ 57) (hlast : C = [] ∨ ∃ B, C = B ++ [53]) (i : Nat) :
    (pfx d n C i = true → i ≤ n → dv d n * 10 ^ (i + C.length) < (dv d i * 10 ^ C.length + num 10 (C.map (· - 48))) * 10 ^ n) ∧
    (pfx d n C i = false → i ≤ n → (dv d i * 10 ^ C.length + num 10 (C.map (· - 48))) * 10 ^ n ≤ dv d n * 10 ^ (i + C.length)) := by
  induction C generalizing i with
  | nil =>
    refine ⟨fun h => (by simp [pfx] at h), fun _ hi => ?_⟩
    have := (dv_split d i n hi hd).1
    have h2 : (10 : Nat) ^ n = 10 ^ (n - i) * 10 ^ i := by rw [← Nat.pow_add]; congr 1; omega
    simp only [List.length_nil, List.map_nil, Nat.pow_zero, Nat.mul_one, Nat.add_zero]
    rw [show num 10 [] = 0 from rfl, Nat.add_zero, h2, ← Nat.mul_assoc]
    exact Nat.mul_le_mul_right _ this
  | cons c C ih =>
    have hc := hC c List.mem_cons_self
    have hC' : ∀ x ∈ C, 48 ≤ x ∧ x ≤ 57 := fun x hx => hC x (List.mem_cons_of_mem _ hx)
    have hl' : C = [] ∨ ∃ B, C = B ++ [53] := by
      rcases hlast with h | ⟨B, hB⟩
      · cases h
      · cases B with
        | nil => left; simp at hB; exact hB.2
        | cons x B => right; simp at hB; exact ⟨B, hB.2⟩
    have hnum : num 10 ((c :: C).map (· - 48)) = (c - 48) * 10 ^ C.length + num 10 (C.map (· - 48)) := by
      rw [List.map_cons, num_cons, List.length_map]
    have hlt : num 10 (C.map (· - 48)) < 10 ^ C.length := by
      have := num_lt 10 (by decide) (C.map (· - 48)) (by intro x hx; obtain ⟨y, hy, rfl⟩ := List.mem_map.1 hx; have := hC' y hy; omega)
      simpa using this
    rw [hnum, List.length_cons]
    by_cases hn : n ≤ i
    · refine ⟨fun _ hi => ?_, fun h => ?_⟩
      · have e : i = n := by omega
        subst e
        have hp : 0 < (c - 48) * 10 ^ C.length + num 10 (C.map (· - 48)) := by
          rcases hl' with h | ⟨B, hB⟩
          · subst h
            rcases hlast with h | ⟨B, hB⟩
            · cases h
            · have : c = 53 := by
                cases B with
                | nil => simp at hB; exact hB
                | cons x B => simp at hB
              subst this; show 0 < 5 * 10 ^ 0 + 0; decide
          · have : num 10 (C.map (· - 48)) = num 10 (B.map (· - 48)) * 10 + 5 := by rw [hB, List.map_append]; exact num_snoc _ _ _
            omega
        rw [Nat.add_mul, Nat.pow_add, ← Nat.mul_assoc]
        have h3 : dv d i * 10 ^ i * 10 ^ (C.length + 1) = dv d i * 10 ^ (C.length + 1) * 10 ^ i := by rw [Nat.mul_right_comm]
        have h4 : 0 < ((c - 48) * 10 ^ C.length + num 10 (C.map (· - 48))) * 10 ^ i := Nat.mul_pos hp (Nat.pow_pos (by decide))
        omega
      · rw [pfx, if_pos hn] at h; cases h
    · have hdi := hd i (by omega)
      obtain ⟨a, b⟩ := dv_split d (i + 1) n (by omega) hd
      have e1 : dv d (i + 1) = dv d i * 10 + (d.getD i 0 - 48) := rfl
      have e2 : (10 : Nat) ^ n = 10 ^ (n - (i + 1)) * 10 ^ (i + 1) := by rw [← Nat.pow_add]; congr 1; omega
      have e3 : (10 : Nat) ^ (i + (C.length + 1)) = 10 ^ C.length * 10 ^ (i + 1) := by rw [← Nat.pow_add]; congr 1; omega
      have e4 : dv d i * 10 ^ (C.length + 1) = dv d i * 10 * 10 ^ C.length := by rw [Nat.pow_succ, Nat.mul_right_comm, Nat.mul_assoc]
      have ih := ih hC' hl' (i + 1)
      rw [show i + (C.length + 1) = i + 1 + C.length by omega]
      by_cases hne : d.getD i 0 = c
      · have hp : pfx d n (c :: C) i = pfx d n C (i + 1) := by rw [pfx, if_neg hn, if_neg (by simp [hne])]
        have e5 : dv d (i + 1) * 10 ^ C.length + num 10 (C.map (· - 48)) = dv d i * 10 ^ (C.length + 1) + ((c - 48) * 10 ^ C.length + num 10 (C.map (· - 48))) := by
          rw [e1, e4, hne, Nat.add_mul]; omega
        rw [hp]
        rw [e5] at ih
        exact ⟨fun h hi => ih.1 h (by omega), fun h hi => ih.2 h (by omega)⟩
      · have hp : pfx d n (c :: C) i = decide (d.getD i 0 < c) := by rw [pfx, if_neg hn, if_pos hne]
        rw [hp, show i + 1 + C.length = i + (C.length + 1) by omega, e3, e2, ← Nat.mul_assoc, ← Nat.mul_assoc, e4]
        refine ⟨fun h hi => ?_, fun h hi => ?_⟩
        · have h := of_decide_eq_true h
          refine Nat.mul_lt_mul_of_pos_right ?_ (Nat.pow_pos (by decide))
          have h1 : dv d (i + 1) + 1 ≤ dv d i * 10 + (c - 48) := by omega
          have h2 : dv d n * 10 ^ C.length < (dv d (i + 1) + 1) * 10 ^ (n - (i + 1)) * 10 ^ C.length := Nat.mul_lt_mul_of_pos_right b (Nat.pow_pos (by decide))
          refine Nat.lt_of_lt_of_le h2 ?_
          rw [Nat.mul_right_comm]
          refine Nat.mul_le_mul_right _ ?_
          refine Nat.le_trans (Nat.mul_le_mul_right _ h1) ?_
          rw [Nat.add_mul]; omega
        · have h := of_decide_eq_false h
          refine Nat.mul_le_mul_right _ ?_
          have h1 : dv d i * 10 + (c - 48) + 1 ≤ dv d (i + 1) := by omega
          have h2 : dv d (i + 1) * 10 ^ (n - (i + 1)) * 10 ^ C.length ≤ dv d n * 10 ^ C.length := Nat.mul_le_mul_right _ a
          refine Nat.le_trans ?_ h2
          rw [Nat.mul_right_comm (dv d (i + 1))]
          refine Nat.mul_le_mul_right _ ?_
          refine Nat.le_trans ?_ (Nat.mul_le_mul_right _ h1)
          rw [Nat.add_mul, Nat.add_mul]; omega
end Go.Proofs.YtdfbokmjipdolaaGreatDoor
/- Plain law of the decimal's shift to the left: the count of digits, the loops' state, the answer. -/
namespace Go.Proofs.YtdfbokmjipdolaaGreatDoor
open Go.RowKit

def lsM (d : Array Nat) (n dl : Nat) (C : List Nat) : Nat := if pfx d n C 0 = true then n + dl - 1 else n + dl

theorem LcOk.more {k dl : Nat} {C : List Nat} (h : LcOk k dl C) (hk : 1 ≤ k) : 1 ≤ dl ∧ 1 ≤ C.length ∧ 10 ^ (dl - 1) ≤ 2 ^ k ∧ 2 ^ k ≤ 10 ^ dl := by
  have hi : 5 ^ k < 10 ^ C.length := by
    have := num_lt 10 (by decide) (C.map (· - 48)) (by intro x hx; obtain ⟨y, hy, rfl⟩ := List.mem_map.1 hx; have := h.dig y hy; omega)
    rw [h.val] at this; simpa using this
  have lo := h.lo
  have len := h.len
  have e10 : (10 : Nat) ^ k = 2 ^ k * 5 ^ k := by rw [← Nat.mul_pow]
  have c1 : 1 ≤ C.length := by obtain ⟨B, hB⟩ := h.last; rw [hB]; simp
  have d1 : 1 ≤ dl := by
    have h1 : (5 : Nat) ^ k < 10 ^ k := Nat.pow_lt_pow_left (by decide) (by omega)
    have := (Nat.pow_lt_pow_iff_right (a := 10) (by decide)).1 (Nat.lt_of_le_of_lt lo h1)
    omega
  refine ⟨d1, c1, ?_, ?_⟩
  · refine Decidable.byContradiction fun hc => ?_
    have h1 : 2 ^ k * 5 ^ k < 10 ^ (dl - 1) * 10 ^ C.length := Nat.mul_lt_mul'' (by omega) hi
    rw [← Nat.pow_add, ← e10, show dl - 1 + C.length = k by omega] at h1
    omega
  · refine Decidable.byContradiction fun hc => ?_
    have h1 : 10 ^ dl * 10 ^ (C.length - 1) < 2 ^ k * 5 ^ k := Nat.mul_lt_mul_of_lt_of_le (by omega) lo (Nat.pow_pos (by decide))
    rw [← Nat.pow_add, ← e10, show dl + (C.length - 1) = k by omega] at h1
    omega

theorem lsM_ok {d : Array Nat} {n k dl : Nat} {C : List Nat} (hd : DN d n) (h : LcOk k dl C) (hk : 1 ≤ k) : n ≤ lsM d n dl C ∧ lsM d n dl C ≤ n + dl ∧ 10 ^ (lsM d n dl C - 1) ≤ dv d n * 2 ^ k ∧ dv d n * 2 ^ k < 10 ^ lsM d n dl C := by
  obtain ⟨d1, c1, b1, b2⟩ := h.more hk
  have hlow := hd.low
  have hhigh := hd.high
  have len := h.len
  have hn := hd.n0
  obtain ⟨p1, p2⟩ := pfx_num d n hd.dig C h.dig (Or.inr h.last) 0
  have e10 : (10 : Nat) ^ k = 2 ^ k * 5 ^ k := by rw [← Nat.mul_pow]
  simp only [dv, Nat.zero_mul, Nat.zero_add, h.val] at p1 p2
  unfold lsM
  cases hP : pfx d n C 0
  · rw [if_neg (by decide)]
    have p := p2 hP (Nat.zero_le _)
    refine ⟨by omega, by omega, ?_, ?_⟩
    · have h1 : 5 ^ k * 10 ^ n * 2 ^ k ≤ dv d n * 10 ^ C.length * 2 ^ k := Nat.mul_le_mul_right _ p
      have h2 : 5 ^ k * 10 ^ n * 2 ^ k = 10 ^ (n + dl - 1) * 10 ^ C.length := by
        rw [← Nat.pow_add, show n + dl - 1 + C.length = k + n by omega, Nat.pow_add, e10, Nat.mul_right_comm, Nat.mul_comm (5 ^ k)]
      rw [h2, Nat.mul_right_comm] at h1
      exact Nat.le_of_mul_le_mul_right h1 (Nat.pow_pos (by decide))
    · rw [Nat.pow_add]
      exact Nat.mul_lt_mul_of_lt_of_le hhigh b2 (Nat.pow_pos (by decide))
  · rw [if_pos rfl]
    have p := p1 hP (Nat.zero_le _)
    refine ⟨by omega, by omega, ?_, ?_⟩
    · rw [show n + dl - 1 - 1 = n - 1 + (dl - 1) by omega, Nat.pow_add]
      exact Nat.mul_le_mul hlow b1
    · have h1 : dv d n * 10 ^ C.length * 2 ^ k < 5 ^ k * 10 ^ n * 2 ^ k := Nat.mul_lt_mul_of_pos_right p (Nat.pow_pos (by decide))
      have h2 : 5 ^ k * 10 ^ n * 2 ^ k = 10 ^ (n + dl - 1) * 10 ^ C.length := by
        rw [← Nat.pow_add, show n + dl - 1 + C.length = k + n by omega, Nat.pow_add, e10, Nat.mul_right_comm, Nat.mul_comm (5 ^ k)]
      rw [h2, Nat.mul_right_comm] at h1
      exact Nat.lt_of_mul_lt_mul_right h1

theorem dv_div (d : Array Nat) (n j : Nat) (h : j ≤ n) (hd : ∀ i < n, 48 ≤ d.getD i 0 ∧ d.getD i 0 ≤ 57) : dv d n / 10 ^ j = dv d (n - j) := by
  obtain ⟨a, b⟩ := dv_split d (n - j) n (by omega) hd
  rw [show n - (n - j) = j by omega] at a b
  exact Nat.div_eq_of_lt_le a b
theorem dv_digit (d : Array Nat) (n p : Nat) (h : p < n) (hd : ∀ i < n, 48 ≤ d.getD i 0 ∧ d.getD i 0 ≤ 57) : dv d n / 10 ^ p % 10 = d.getD (n - 1 - p) 0 - 48 := by
  rw [dv_div d n p (by omega) hd, show n - p = n - 1 - p + 1 by omega, dv]
  have := hd (n - 1 - p) (by omega)
  omega

/-- the state of the two loops behind p digits -/
structure LP (d : Array Nat) (n k m p c : Nat) (D : Array Nat) : Prop where
  size : D.size = 800
  ec : c = (dv d n % 10 ^ p * 2 ^ k) / 10 ^ p
  keep : ∀ i, i + p < n → D.getD i 0 = d.getD i 0
  wrote : ∀ i, m ≤ i + p → i < m → i < 800 → D.getD i 0 = 48 + dv d n * 2 ^ k / 10 ^ (m - 1 - i) % 10
  pm : p ≤ m

theorem LP.start (d : Array Nat) (n k m : Nat) (hs : d.size = 800) : LP d n k m 0 0 d :=
  ⟨hs, by simp [Nat.mod_one], fun _ _ => rfl, fun i h1 h2 => by omega, Nat.zero_le _⟩
theorem LP.c_lt {d : Array Nat} {n k m p c : Nat} {D : Array Nat} (h : LP d n k m p c D) : c < 2 ^ k := by
  rw [h.ec]
  refine (Nat.div_lt_iff_lt_mul (Nat.pow_pos (by decide))).2 ?_
  rw [Nat.mul_comm]
  exact Nat.mul_lt_mul_of_pos_left (Nat.mod_lt _ (Nat.pow_pos (by decide))) (Nat.pow_pos (by decide))
theorem LP.next {d : Array Nat} {n k m p c x : Nat} {D D' : Array Nat} (h : LP d n k m p c D) (hp : p < m) (hnm : n ≤ m) (hx : x = dv d n / 10 ^ p % 10)
    (hD : (m - 1 - p < 800 ∧ D' = D.setIfInBounds (m - 1 - p) ((c + x * 2 ^ k) % 10 + 48)) ∨ (800 ≤ m - 1 - p ∧ D' = D)) : LP d n k m (p + 1) ((c + x * 2 ^ k) / 10) D' := by
  have hmod : dv d n % 10 ^ (p + 1) = dv d n % 10 ^ p + 10 ^ p * x := by rw [hx, Nat.mod_pow_succ]
  have hN : c + x * 2 ^ k = (dv d n % 10 ^ (p + 1) * 2 ^ k) / 10 ^ p := by
    rw [hmod, Nat.add_mul, h.ec, Nat.mul_assoc, Nat.add_mul_div_left _ _ (Nat.pow_pos (by decide))]
  have hdig : (c + x * 2 ^ k) % 10 = dv d n * 2 ^ k / 10 ^ p % 10 := by
    rw [hN]
    conv => rhs; rw [← Nat.div_add_mod (dv d n) (10 ^ (p + 1)), Nat.add_mul, Nat.pow_succ, Nat.mul_assoc, Nat.mul_assoc, Nat.mul_add_div (Nat.pow_pos (by decide)), Nat.mul_add_mod]
    rw [← Nat.pow_succ]
  refine ⟨?_, ?_, fun i hi => ?_, fun i h1 h2 h3 => ?_, by omega⟩
  · rcases hD with ⟨_, e⟩ | ⟨_, e⟩ <;> rw [e]
    · simp [h.size]
    · exact h.size
  · rw [hN, Nat.div_div_eq_div_mul, ← Nat.pow_succ]
  · rcases hD with ⟨_, e⟩ | ⟨_, e⟩ <;> rw [e]
    · rw [← h.keep i (by omega), Array.getD_eq_getD_getElem?, Array.getD_eq_getD_getElem?, Array.getElem?_setIfInBounds_ne (by omega)]
    · exact h.keep i (by omega)
  · by_cases hi : i = m - 1 - p
    · rcases hD with ⟨hl, e⟩ | ⟨hl, e⟩
      · rw [e, hi, Array.getD_eq_getD_getElem?, Array.getElem?_setIfInBounds_self_of_lt (by rw [h.size]; omega), Option.getD_some, hdig, show m - 1 - (m - 1 - p) = p by omega, Nat.add_comm]
      · omega
    · rcases hD with ⟨_, e⟩ | ⟨_, e⟩ <;> rw [e]
      · rw [← h.wrote i (by omega) h2 h3, Array.getD_eq_getD_getElem?, Array.getD_eq_getD_getElem?, Array.getElem?_setIfInBounds_ne (Ne.symm hi)]
      · exact h.wrote i (by omega) h2 h3
theorem LP.carry {d : Array Nat} {n k m p c : Nat} {D : Array Nat} (h : LP d n k m p c D) (hd : DN d n) (hp : n ≤ p) : c = dv d n * 2 ^ k / 10 ^ p := by
  rw [h.ec, Nat.mod_eq_of_lt]
  exact Nat.lt_of_lt_of_le hd.high (Nat.pow_le_pow_right (by decide) hp)
theorem LP.lt_m {d : Array Nat} {n k m p c : Nat} {D : Array Nat} (h : LP d n k m p c D) (hd : DN d n) (hp : n ≤ p) (hc : 0 < c) (hm : dv d n * 2 ^ k < 10 ^ m) : p < m := by
  rw [h.carry hd hp] at hc
  have h1 : 10 ^ p ≤ dv d n * 2 ^ k := by
    refine Decidable.byContradiction fun hx => ?_
    rw [Nat.div_eq_of_lt (by omega)] at hc; omega
  exact (Nat.pow_lt_pow_iff_right (a := 10) (by decide)).1 (Nat.lt_of_le_of_lt h1 hm)

/-- the place of a decimal in one scale -/
def sv (d : Array Nat) (n : Nat) (dp : Int) : Nat := dv d n * 10 ^ (1200 + dp - n).toNat

/-- what a shift to the left makes of the number -/
structure LS (S : Nat) (k : Nat) (S' : Nat) (dp' : Int) : Prop where
  le : S' ≤ S * 2 ^ k
  grid : ∀ (u x : Nat), 400 + dp' ≤ u → 10 ^ u * x ≤ S * 2 ^ k → 10 ^ u * x ≤ S'

theorem LP.done {d : Array Nat} {n k m p c : Nat} {D : Array Nat} (h : LP d n k m p c D) (hd : DN d n) (hp : n ≤ p) (hc : c = 0) (h1 : 10 ^ (m - 1) ≤ dv d n * 2 ^ k) (h2 : dv d n * 2 ^ k < 10 ^ m) (hnm : n ≤ m) :
    p = m ∧ DN D (min m 800) ∧ ∀ j, j ≤ min m 800 → dv D j = dv d n * 2 ^ k / 10 ^ (m - j) := by
  have hpm : p = m := by
    have hz := h.carry hd hp
    rw [hc] at hz
    have hlt : dv d n * 2 ^ k < 10 ^ p := by
      refine Decidable.byContradiction fun hx => ?_
      have := Nat.div_pos (show 10 ^ p ≤ dv d n * 2 ^ k by omega) (Nat.pow_pos (by decide))
      omega
    have := (Nat.pow_lt_pow_iff_right (a := 10) (by decide)).1 (Nat.lt_of_le_of_lt h1 hlt)
    have := h.pm
    omega
  have hw : ∀ i, i < min m 800 → D.getD i 0 = 48 + dv d n * 2 ^ k / 10 ^ (m - 1 - i) % 10 := fun i hi => h.wrote i (by omega) (by omega) (by omega)
  have hn0 := hd.n0
  refine ⟨hpm, ⟨h.size, by omega, by omega, fun i hi => ?_, ?_⟩, ?_⟩
  · rw [hw i hi]; omega
  · rw [hw 0 (by omega), Nat.sub_zero]
    have q1 := Nat.div_pos h1 (Nat.pow_pos (by decide))
    have q2 : dv d n * 2 ^ k / 10 ^ (m - 1) < 10 := (Nat.div_lt_iff_lt_mul (Nat.pow_pos (by decide))).2 (by rw [Nat.mul_comm 10, ← Nat.pow_succ, show (m - 1).succ = m by omega]; exact h2)
    omega
  · intro j hj
    induction j with
    | zero => rw [Nat.sub_zero, Nat.div_eq_of_lt h2]; rfl
    | succ j ih =>
      rw [dv, ih (by omega), hw j (by omega), show m - j = m - 1 - j + 1 by omega, Nat.pow_succ, ← Nat.div_div_eq_div_mul, show m - (j + 1) = m - 1 - j by omega]
      omega

theorem pow10_div (a b : Nat) (h : b ≤ a) : (10 : Nat) ^ a = 10 ^ (a - b) * 10 ^ b := by rw [← Nat.pow_add]; congr 1; omega

/-- the whole shift in one scale; N: the digits that trim leaves -/
theorem LS.of {d D : Array Nat} {n k m N : Nat} {dp : Int} (hdp : -390 ≤ dp) (hn8 : n ≤ 800) (hnm : n ≤ m) (hN : N ≤ min m 800) (hv : dv D (min m 800) = dv D N * 10 ^ (min m 800 - N)) (hL : dv D (min m 800) = dv d n * 2 ^ k / 10 ^ (m - min m 800)) :
    LS (sv d n dp) k (sv D N (dp + (m - n : Nat))) (dp + (m - n : Nat)) := by
  obtain ⟨E, hE⟩ : ∃ E : Nat, (E : Int) = 1200 + dp - n := ⟨(1200 + dp - n).toNat, by omega⟩
  have e1 : (1200 + dp - n).toNat = E := by omega
  have e2 : (1200 + (dp + (m - n : Nat)) - N).toNat = E + (m - min m 800) + (min m 800 - N) := by omega
  have hS' : sv D N (dp + (m - n : Nat)) = dv d n * 2 ^ k / 10 ^ (m - min m 800) * 10 ^ (m - min m 800) * 10 ^ E := by
    unfold sv
    rw [e2, Nat.pow_add, Nat.mul_comm (10 ^ (E + _)), ← Nat.mul_assoc, ← hv, hL, Nat.pow_add, Nat.mul_comm (10 ^ E), ← Nat.mul_assoc]
  have hS : sv d n dp * 2 ^ k = dv d n * 2 ^ k * 10 ^ E := by unfold sv; rw [e1, Nat.mul_right_comm]
  rw [hS']
  constructor
  · rw [hS]
    exact Nat.mul_le_mul_right _ (Nat.div_mul_le_self _ _)
  · intro u x hu hx
    rw [hS] at hx
    rcases Nat.lt_or_ge 800 m with h8 | h8
    · rw [show min m 800 = 800 by omega] at *
      have hu' : E + (m - 800) ≤ u := by omega
      have hp1 : 0 < (10 : Nat) ^ E := Nat.pow_pos (by decide)
      have hp2 : 0 < (10 : Nat) ^ (m - 800) := Nat.pow_pos (by decide)
      rw [pow10_div u _ hu', Nat.pow_add] at hx ⊢
      revert hx hp1 hp2
      generalize (10 : Nat) ^ (u - (E + (m - 800))) = a
      generalize (10 : Nat) ^ E = b
      generalize (10 : Nat) ^ (m - 800) = c
      intro hx hp1 hp2
      have e : a * (b * c) * x = a * x * c * b := by ac_rfl
      rw [e] at hx ⊢
      refine Nat.mul_le_mul_right _ (Nat.mul_le_mul_right _ ?_)
      exact (Nat.le_div_iff_mul_le hp2).2 (Nat.le_of_mul_le_mul_right hx hp1)
    · rw [show min m 800 = m by omega, Nat.sub_self, Nat.pow_zero, Nat.div_one, Nat.mul_one]
      exact hx
end Go.Proofs.YtdfbokmjipdolaaGreatDoor
/- Plain law of the decimal's shift to the right. -/
namespace Go.Proofs.YtdfbokmjipdolaaGreatDoor
open Go.RowKit

/-- the digit at place r, 0 behind the last -/
def dg (d : Array Nat) (n r : Nat) : Nat := if r < n then d.getD r 0 - 48 else 0
/-- the first r digits as a number, zeros behind the last -/
def px (d : Array Nat) (n : Nat) : Nat → Nat
  | 0 => 0
  | r + 1 => px d n r * 10 + dg d n r
theorem px_dv (d : Array Nat) (n r : Nat) (h : r ≤ n) : px d n r = dv d r := by
  induction r with
  | zero => rfl
  | succ r ih => rw [px, dv, ih (by omega), dg, if_pos (by omega)]
theorem px_more (d : Array Nat) (n j : Nat) : px d n (n + j) = dv d n * 10 ^ j := by
  induction j with
  | zero => simp [px_dv d n n (Nat.le_refl _)]
  | succ j ih => rw [← Nat.add_assoc, px, ih, dg, if_neg (by omega), Nat.pow_succ, Nat.add_zero, Nat.mul_assoc]
theorem px_ge (d : Array Nat) (n r : Nat) (h : n ≤ r) : px d n r = dv d n * 10 ^ (r - n) := by
  have := px_more d n (r - n)
  rwa [show n + (r - n) = r by omega] at this
theorem dg_le {d : Array Nat} {n : Nat} (hd : DN d n) (r : Nat) : dg d n r ≤ 9 := by
  unfold dg
  split
  · have := hd.dig r ‹_›; omega
  · omega
theorem px_low {d : Array Nat} {n : Nat} (hd : DN d n) (r : Nat) : 10 ^ r ≤ px d n (r + 1) := by
  induction r with
  | zero =>
    have h0 := hd.dig 0 hd.n0
    have hl := hd.lead
    simp only [px, dg, if_pos hd.n0]; omega
  | succ r ih => rw [px, Nat.pow_succ]; omega
theorem px_r0 {d : Array Nat} {n k r : Nat} (hd : DN d n) (hk : k ≤ 60) (h : px d n (r + 1) < 2 ^ k) : r ≤ 18 := by
  have h1 := Nat.lt_of_le_of_lt (px_low hd r) h
  have h2 : (2 : Nat) ^ k ≤ 2 ^ 60 := Nat.pow_le_pow_right (by decide) hk
  have h3 : (10 : Nat) ^ r < 10 ^ 19 := Nat.lt_of_lt_of_le (Nat.lt_of_lt_of_le h1 h2) (by decide)
  have := (Nat.pow_lt_pow_iff_right (a := 10) (by decide)).1 h3
  omega

/-- the state of the writing loops: w digits written, r0 + w read, c carried -/
structure RP (d : Array Nat) (n k r0 w c : Nat) (D : Array Nat) : Prop where
  size : D.size = 800
  eq : px d n (r0 + w) = dv D w * (10 * 2 ^ k) + c
  lt : c < 10 * 2 ^ k
  keep : ∀ i, w ≤ i → D.getD i 0 = d.getD i 0
  dig : ∀ i < w, 48 ≤ D.getD i 0 ∧ D.getD i 0 ≤ 57
  lead : (w = 0 ∧ 2 ^ k ≤ c) ∨ (0 < w ∧ D.getD 0 0 ≠ 48)
  w8 : w ≤ 800
theorem RP.start {d : Array Nat} {n k r : Nat} (hd : DN d n) (h1 : px d n r < 2 ^ k) (h2 : 2 ^ k ≤ px d n (r + 1)) : RP d n k (r + 1) 0 (px d n (r + 1)) d := by
  have := dg_le hd r
  refine ⟨hd.size, by simp [dv], ?_, fun _ _ => rfl, fun i hi => by omega, Or.inl ⟨rfl, h2⟩, by omega⟩
  rw [px]; omega
theorem RP.next {d : Array Nat} {n k r0 w c : Nat} {D : Array Nat} (h : RP d n k r0 w c D) (hd : DN d n) (hw : w < 800) : RP d n k r0 (w + 1) (c % 2 ^ k * 10 + dg d n (r0 + w)) (D.setIfInBounds w (c / 2 ^ k + 48)) ∧ c / 2 ^ k ≤ 9 := by
  have h2k : 0 < 2 ^ k := Nat.pow_pos (by decide)
  have h9 : c / 2 ^ k < 10 := (Nat.div_lt_iff_lt_mul h2k).2 h.lt
  have hset : (D.setIfInBounds w (c / 2 ^ k + 48)).getD w 0 = c / 2 ^ k + 48 := by
    rw [Array.getD_eq_getD_getElem?, Array.getElem?_setIfInBounds_self_of_lt (by rw [h.size]; exact hw), Option.getD_some]
  have hoth : ∀ i, i ≠ w → (D.setIfInBounds w (c / 2 ^ k + 48)).getD i 0 = D.getD i 0 := fun i hi => by
    rw [Array.getD_eq_getD_getElem?, Array.getD_eq_getD_getElem?, Array.getElem?_setIfInBounds_ne (Ne.symm hi)]
  have hdg := dg_le hd (r0 + w)
  refine ⟨⟨by simp [h.size], ?_, ?_, fun i hi => by rw [hoth i (by omega)]; exact h.keep i (by omega), fun i hi => ?_, Or.inr ⟨by omega, ?_⟩, by omega⟩, Nat.le_of_lt_succ h9⟩
  · rw [← Nat.add_assoc, px, h.eq, dv, hset, dv_set _ _ _ _ (Nat.le_refl _)]
    have e := Nat.div_add_mod c (2 ^ k)
    have e2 : c / 2 ^ k + 48 - 48 = c / 2 ^ k := Nat.add_sub_cancel _ _
    rw [e2]
    generalize c / 2 ^ k = q at e
    generalize c % 2 ^ k = m at e
    rw [← e, Nat.add_mul, Nat.add_mul, Nat.add_mul, Nat.mul_assoc, Nat.mul_assoc]
    have e3 : 2 ^ k * (q * 10) = q * (10 * 2 ^ k) := by ac_rfl
    have e4 : dv D w * (10 * (2 ^ k * 10)) = dv D w * (10 * (10 * 2 ^ k)) := by rw [Nat.mul_comm (2 ^ k)]
    have e5 : 10 * 2 ^ k * 10 = 10 * (10 * 2 ^ k) := by rw [Nat.mul_comm]
    simp only [Nat.mul_assoc] at *
    omega
  · have hm := Nat.mod_lt c h2k
    revert hm hdg
    generalize c % 2 ^ k = q
    generalize 2 ^ k = z
    intro h1 h2
    omega
  · by_cases hi' : i = w
    · rw [hi', hset]
      revert h9
      generalize c / 2 ^ k = q
      intro h9
      omega
    · rw [hoth i hi']; exact h.dig i (by omega)
  · by_cases hw0 : w = 0
    · subst hw0
      rw [hset]
      have hc : 2 ^ k ≤ c := by rcases h.lead with h | h; exact h.2; omega
      have := Nat.div_pos hc h2k
      revert this
      generalize c / 2 ^ k = q
      intro h9
      omega
    · rw [hoth 0 (by omega)]
      rcases h.lead with h | h
      · omega
      · exact h.2

/-- what a shift to the right makes of the number -/
structure RSh (S : Nat) (k : Nat) (S' : Nat) (dp' : Int) : Prop where
  le : S' * 2 ^ k ≤ S
  grid : ∀ (u x : Nat), 400 + dp' ≤ u → 10 ^ u * x * 2 ^ k ≤ S → 10 ^ u * x ≤ S'

theorem RSh.of {d D : Array Nat} {n k r0 w N : Nat} {dp : Int} (hdp : -399 ≤ dp - r0 + 1) (hn : n ≤ r0 + w) (hn8 : n ≤ 800) (hdp2 : -390 ≤ dp) (hw : w ≤ 800) (hN : N ≤ w) (hv : dv D w = dv D N * 10 ^ (w - N))
    (hQ : px d n (r0 + w) = dv D w * (10 * 2 ^ k) ∨ (w = 800 ∧ dv D w = px d n (r0 + w) / (10 * 2 ^ k))) :
    RSh (sv d n dp) k (sv D N (dp - r0 + 1)) (dp - r0 + 1) := by
  obtain ⟨E, hE⟩ : ∃ E : Nat, (E : Int) = 1200 + dp - r0 - w := ⟨(1200 + dp - r0 - w).toNat, by omega⟩
  have h2k : 0 < 10 * 2 ^ k := Nat.mul_pos (by decide) (Nat.pow_pos (by decide))
  have hS : sv d n dp = px d n (r0 + w) * 10 ^ E := by
    unfold sv
    rw [px_ge d n _ hn, Nat.mul_assoc, ← Nat.pow_add]
    congr 2; omega
  have hS' : sv D N (dp - r0 + 1) = dv D w * 10 ^ (E + 1) := by
    unfold sv
    rw [hv, Nat.mul_assoc, ← Nat.pow_add]
    congr 2; omega
  have hle : dv D w * (10 * 2 ^ k) ≤ px d n (r0 + w) := by
    rcases hQ with h | ⟨_, h⟩
    · omega
    · rw [h]; exact Nat.div_mul_le_self _ _
  rw [hS, hS']
  constructor
  · rw [Nat.pow_succ, show dv D w * (10 ^ E * 10) * 2 ^ k = dv D w * (10 * 2 ^ k) * 10 ^ E by generalize (10 : Nat) ^ E = e; ac_rfl]
    exact Nat.mul_le_mul_right _ hle
  · intro u x hu hx
    rcases hQ with h | ⟨h8, h⟩
    · rw [h] at hx
      have e : dv D w * (10 * 2 ^ k) * 10 ^ E = dv D w * 10 ^ (E + 1) * 2 ^ k := by rw [Nat.pow_succ]; generalize (10 : Nat) ^ E = e; ac_rfl
      rw [e] at hx
      exact Nat.le_of_mul_le_mul_right hx (Nat.pow_pos (by decide))
    · have hu' : E + 1 ≤ u := by omega
      rw [pow10_div u (E + 1) hu'] at hx ⊢
      have hp1 : 0 < (10 : Nat) ^ E := Nat.pow_pos (by decide)
      rw [Nat.pow_succ] at hx ⊢
      revert hx hp1
      generalize (10 : Nat) ^ (u - (E + 1)) = a
      generalize (10 : Nat) ^ E = c
      intro hx hp1
      have e : a * (c * 10) * x * 2 ^ k = a * x * (10 * 2 ^ k) * c := by ac_rfl
      have e2 : a * (c * 10) * x = a * x * (c * 10) := by ac_rfl
      rw [e] at hx
      rw [e2, h]
      exact Nat.mul_le_mul_right _ ((Nat.le_div_iff_mul_le h2k).2 (Nat.le_of_mul_le_mul_right hx hp1))
end Go.Proofs.YtdfbokmjipdolaaGreatDoor
