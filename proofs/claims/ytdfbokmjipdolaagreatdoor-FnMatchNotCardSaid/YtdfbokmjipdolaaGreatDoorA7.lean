/- atofHex at float64. -/
import Derived.Test.YtdfbokmjipdolaaGreatDoorA6
import Derived.Test.YtdfbokmjipdolaaGreatDoorQ3
import Derived.BigQuiet
import Derived.LaidEqlPtr
import Derived.Deep.QuietTactic
import Derived.Deep.DeepCutAuto
import Derived.Deep.CutBlock
set_option linter.unusedVariables false
set_option linter.unusedSimpArgs false
namespace Go.Proofs.YtdfbokmjipdolaaGreatDoor
open Go.RowKit

/-- a mantissa with a sticky last bit -/
def stk (m : Nat) (tr : Bool) : Nat := if tr then m ||| 1 else m
def HPost (m : Nat) (x : Int) (e : Ending) : Prop := ∃ b v, e = .returned (.tuple #[.float .f64 b, v]) ∧ nan64 b = false ∧ ((v = .iface 79 (.int .i64 1) ∧ bigX m x) ∨ (v = .nilIface ∧ ¬ bigX m x))

/-- the first loop: doubled till 2^54 -/
structure H1 (m : Nat) (x : Int) (M : Nat) (X : Int) (j : Nat) : Prop where
  eM : M = m * 2 ^ j
  eX : X = x + 52 - j
  lt : M < 2 ^ 64
  j0 : j = 0 ∨ M < 2 ^ 55
  j1 : m = 0 ∨ 2 ^ j ≤ M
theorem H1.start (m : Nat) (x : Int) (hm : m < 2 ^ 64) : H1 m x m (x + 52) 0 := ⟨by simp, by simp, hm, Or.inl rfl, by omega⟩
theorem H1.next {m : Nat} {x : Int} {M : Nat} {X : Int} {j : Nat} (h : H1 m x M X j) (hM : M < 2 ^ 54) : H1 m x (M * 2) (X - 1) (j + 1) :=
  ⟨by rw [h.eM, Nat.pow_succ, Nat.mul_assoc], by rw [h.eX]; omega, by omega, Or.inr (by omega), by rcases h.j1 with h | h; exact Or.inl h; exact Or.inr (by rw [Nat.pow_succ]; omega)⟩
theorem H1.jlt {m : Nat} {x : Int} {M : Nat} {X : Int} {j : Nat} (h : H1 m x M X j) (h0 : 0 < M) (hM : M < 2 ^ 54) : j < 54 := by
  rcases h.j1 with h1 | h1
  · rw [h.eM, h1] at h0; simp at h0
  · exact (Nat.pow_lt_pow_iff_right (by decide)).1 (Nat.lt_of_le_of_lt h1 hM)
theorem H1.jle {m : Nat} {x : Int} {M : Nat} {X : Int} {j : Nat} (h : H1 m x M X j) : m = 0 ∨ j < 64 := by
  rcases h.j1 with h1 | h1
  · exact Or.inl h1
  · exact Or.inr ((Nat.pow_lt_pow_iff_right (a := 2) (by decide)).1 (Nat.lt_of_le_of_lt h1 h.lt))

/-- the second loop: halved with a sticky last bit till below 2^55 -/
structure H2 (M1 : Nat) (X1 : Int) (M : Nat) (X : Int) (j : Nat) : Prop where
  ev : ∀ K : Nat, 2 * K ≤ M ↔ 2 * K * 2 ^ j ≤ M1
  eX : X = X1 + j
  lt : M < 2 ^ (64 - j)
  jle : j ≤ 9
  hi : 2 ^ 54 ≤ M ∨ (M = M1 ∧ j = 0)
theorem H2.start (M1 : Nat) (X1 : Int) (h : M1 < 2 ^ 64) : H2 M1 X1 M1 X1 0 := ⟨by simp, by simp, h, by decide, Or.inr ⟨rfl, rfl⟩⟩
theorem H2.lt64 {M1 : Nat} {X1 : Int} {M : Nat} {X : Int} {j : Nat} (h : H2 M1 X1 M X j) : M < 18446744073709551616 := Nat.lt_of_lt_of_le h.lt (Nat.pow_le_pow_right (show 2 > 0 by decide) (show 64 - j ≤ 64 by omega))
theorem sticky_le (M : Nat) : M / 2 ≤ (M / 2 ||| M % 2) ∧ (M / 2 ||| M % 2) ≤ M / 2 + 1 := by
  have h := or_split (M / 2) (M % 2) 1
  have e1 : M % 2 / 2 ^ 1 = 0 := by omega
  rw [e1, Nat.or_zero] at h
  have h2 : M / 2 % 2 ^ 1 ||| M % 2 % 2 ^ 1 < 2 ^ 1 := Nat.or_lt_two_pow (by omega) (by omega)
  have h3 : M / 2 % 2 ^ 1 ≤ M / 2 % 2 ^ 1 ||| M % 2 % 2 ^ 1 := Nat.left_le_or
  omega
theorem sticky_le2 (M : Nat) : (M / 2 ||| M % 2) ≤ M / 2 + M % 2 := by
  obtain ⟨s1, s2⟩ := sticky_le M
  rcases Nat.mod_two_eq_zero_or_one M with h | h
  · rw [h, Nat.or_zero]; omega
  · omega
theorem H2.next {M1 : Nat} {X1 : Int} {M : Nat} {X : Int} {j : Nat} (h : H2 M1 X1 M X j) (hM : 2 ^ 55 ≤ M) : H2 M1 X1 (M / 2 ||| M % 2) (X + 1) (j + 1) := by
  obtain ⟨s1, s2⟩ := sticky_le M
  have hl := h.lt
  have hj : 55 < 64 - j := (Nat.pow_lt_pow_iff_right (a := 2) (by decide)).1 (Nat.lt_of_le_of_lt hM hl)
  have hp : 2 ^ (64 - j) = 2 * 2 ^ (64 - (j + 1)) := by rw [show 64 - j = 64 - (j + 1) + 1 by omega, Nat.pow_succ, Nat.mul_comm]
  refine ⟨fun K => ?_, by rw [h.eX]; omega, Nat.or_lt_two_pow (by omega) ?_, by omega, Or.inl (by omega)⟩
  · have e := h.ev (2 * K)
    rw [or1_ge (M / 2) (2 * K) (M % 2) (by omega) (by omega)]
    have e2 : 2 * (2 * K) * 2 ^ j = 2 * K * 2 ^ (j + 1) := by rw [Nat.pow_succ]; ac_rfl
    rw [← e2, ← e]; omega
  · have : 2 ^ 1 ≤ 2 ^ (64 - (j + 1)) := Nat.pow_le_pow_right (by decide) (by omega)
    omega

/-- what is left behind the rounding: the mantissa MR below 2^53, the place XR -/
structure HR (M3 : Nat) (X3 : Int) (MR : Nat) (XR : Int) : Prop where
  lt : MR < 2 ^ 53
  x : XR = X3 + 2 ∨ XR = X3 + 3
  up : XR = X3 + 3 ↔ 2 ^ 55 - 2 ≤ M3
  full : XR = X3 + 3 → MR = 2 ^ 52
  lo : M3 / 4 ≤ MR ∨ XR = X3 + 3
  hi : MR ≤ M3 / 4 + 1
theorem three_of (M3 : Nat) : (M3 % 4 ||| M3 / 4 % 2) = 3 ↔ (M3 % 4 = 3 ∨ (M3 % 4 = 2 ∧ M3 / 4 % 2 = 1)) := by
  have h4 : M3 % 4 < 4 := Nat.mod_lt _ (by decide)
  have h2 : M3 / 4 % 2 < 2 := Nat.mod_lt _ (by decide)
  generalize M3 % 4 = a at *
  generalize M3 / 4 % 2 = b at *
  have : a = 0 ∨ a = 1 ∨ a = 2 ∨ a = 3 := by omega
  have : b = 0 ∨ b = 1 := by omega
  rcases ‹a = 0 ∨ a = 1 ∨ a = 2 ∨ a = 3› with rfl | rfl | rfl | rfl <;> rcases ‹b = 0 ∨ b = 1› with rfl | rfl <;> decide

/-- over, of all that the loops know -/
theorem hex_over (m : Nat) (x : Int) (tr : Bool) (M : Nat) (X : Int) (j M1 M2 j2 : Nat) (X2 : Int) (M3 : Nat) (X3 : Int) (MR : Nat) (XR : Int) (hm : m < 2 ^ 64) (h1 : H1 m x M X j) (hM0 : M = 0 ∨ 2 ^ 54 ≤ M) (hj : j ≤ 64) (htr : tr = true → 2 ^ 60 ≤ m)
    (hM1 : M1 = if tr then M ||| 1 else M) (h2 : H2 M1 X M2 X2 j2) (hM2 : M2 < 2 ^ 55) (h3 : (M3 = M2 ∧ X3 = X2) ∨ X3 ≤ -1024) (h23 : X2 ≤ X3) (h3l : M3 < 2 ^ 55) (hr : HR M3 X3 MR XR) :
    (2 ^ 52 ≤ MR ∧ 1023 < XR) ↔ bigX (if tr then m ||| 1 else m) x := by
  by_cases hz : M = 0
  · have hm0 : m = 0 := by
      have := h1.eM; rw [hz] at this
      rcases Nat.mul_eq_zero.1 this.symm with h | h
      · exact h
      · have := Nat.two_pow_pos j; omega
    have ht : tr = false := by
      cases tr
      · rfl
      · have := htr rfl; omega
    subst ht hm0
    have e1 : M1 = 0 := by rw [hM1, hz]; rfl
    have e2 : ¬ 2 ≤ M2 := fun h => by
      have := (h2.ev 1).1 (by omega)
      have p := Nat.two_pow_pos j2
      omega
    have nb : ¬ bigX 0 x := fun h => by
      have := h.2; rw [Nat.zero_mul] at this
      have : 0 < thr := by decide +kernel
      omega
    constructor
    · intro ⟨a, b⟩
      exfalso
      have := hr.x
      rcases h3 with h3 | h3
      · have := hr.hi; omega
      · omega
    · intro h; exact absurd h nb
  · have hM54 : 2 ^ 54 ≤ M := by omega
    have hM1lo : 2 ^ 54 ≤ M1 := by
      rw [hM1]; split
      · exact Nat.le_trans hM54 Nat.left_le_or
      · exact hM54
    have hlo : 2 ^ 54 ≤ M2 := by
      rcases h2.hi with h | h
      · exact h
      · omega
    have hj0 : tr = true → j = 0 := fun h => by
      rcases h1.j0 with h0 | h0
      · exact h0
      · refine Decidable.byContradiction fun hj => ?_
        have := htr h
        have e := h1.eM
        have : m * 2 ^ 0 ≤ m * 2 ^ j := Nat.mul_le_mul_left _ (Nat.pow_le_pow_right (by decide) (by omega))
        omega
    have hmm : (if tr then m ||| 1 else m) * 2 ^ j = M1 := by
      rw [hM1]
      cases tr
      · exact h1.eM.symm
      · have := h1.eM
        rw [hj0 rfl] at this ⊢
        simp at this ⊢
        rw [this]
    have hlt : (if tr then m ||| 1 else m) < 2 ^ 64 := by
      split
      · exact Nat.or_lt_two_pow hm (by decide)
      · exact hm
    rw [hex_core _ x M1 M2 X2 j j2 hlt hmm (by rw [h2.eX, h1.eX]) hj h2.jle h2.ev hlo hM2]
    have hrx := hr.x
    have hru := hr.up
    have hrl := hr.lo
    have hrf := hr.full
    rcases h3 with ⟨rfl, rfl⟩ | h3
    · constructor
      · intro ⟨a, b⟩; omega
      · intro h
        have h52 : 2 ^ 52 ≤ MR := by
          rcases hrl with h | h
          · omega
          · have := hrf h; omega
        omega
    · constructor
      · intro ⟨a, b⟩; omega
      · intro h; omega

/-- float64info lies in the world -/
structure InfoAt (w : World) : Prop where
  c0 : w.cell? ⟨4, 0, none⟩ = some (.int .u64 52)
  c1 : w.cell? ⟨4, 1, none⟩ = some (.int .u64 11)
  c2 : w.cell? ⟨4, 2, none⟩ = some (.int .i64 (-1023))
  f4 : ∃ c t, w.heap[4]? = some (.cells c t (0, 0))
  f2 : ∃ c t, w.heap[2]? = some (.cells c t (0, 0))

theorem InfoAt.drewN {w : World} (h : InfoAt w) (n : Nat) : InfoAt (w.drewN n) := ⟨by rw [World.cell?_drewN]; exact h.c0, by rw [World.cell?_drewN]; exact h.c1, by rw [World.cell?_drewN]; exact h.c2, h.f4, h.f2⟩
theorem eql_info {w : World} (h : InfoAt w) (n : Nat) : Sem.run Tryz.prog (binOp .eql 126 (.pointer (some ⟨4, 0, none⟩)) (.pointer (some ⟨2, 0, none⟩))) (w.drewN n) = .ok (.bool false) (w.drewN n) := by
  obtain ⟨j, hj, hjs⟩ := Option.map_eq_some_iff.1 (show (Tryz.prog.info? 129).map (·.size) = some 3 by kernel_rfl)
  obtain ⟨c, t, h4⟩ := h.f4
  obtain ⟨c', t', h2⟩ := h.f2
  exact run_eql_ptr_other (w.drewN n) Tryz.underlying126 hj (by rw [hjs]; decide) (by simp) h4 h2
theorem or_one (n : Nat) (h : n < 18446744073709551616) : bits BinOp.or IntKind.u64 (n : Int) 1 = ((n ||| 1 : Nat) : Int) := bits_or_u64 n 1 (by omega) (by decide)

set_option maxRecDepth 100000 in
set_option maxHeartbeats 4000000 in
theorem hex_any (s : ByteArray) (m : Nat) (x : Int) (neg tr : Bool) (w : World) (hm : m < 18446744073709551616) (hx : -1000000 ≤ x) (hx' : x ≤ 1000000) (hi : InfoAt w) (htr : tr = true → 2 ^ 60 ≤ m) :
    Calls Tryz.prog 68 #[.string s, .pointer (some ⟨4, 0, none⟩), .int .u64 m, .int .i64 x, .bool neg, .bool tr] w fun e w' => HPost (stk m tr) x e ∧ ∃ n, w' = w.drewN n := by
  have Hi := Lib.hid hi
  obtain ⟨c0, c1, c2, _, _⟩ := hi
  have Htr := Lib.hid htr
  clear htr
  go_enter Tryz.func68, Tryz.ntmps68
  go_wp2_with fail
  go_quiet (fail)
  go_upto_block 0 with fail
  clear c0 c1 c2
  obtain ⟨wq, hwq⟩ : ∃ wq, wq = w.drewN nq := ⟨_, rfl⟩
  have hiq : InfoAt wq := by rw [hwq]; exact Hi.out.drewN nq
  have Heql := Lib.hid (eql_info hiq)
  obtain ⟨c0, c1, c2, _, _⟩ := hiq
  rw [← hwq]
  have Hwq := Lib.hid hwq
  clear hwq
  go_cut [2, 3] (fun s2 s3 w1 => ∃ (M : Nat) (X : Int) (j : Nat), s2 = .int .u64 M ∧ s3 = .int .i64 X ∧ H1 m x M X j ∧ (M = 0 ∨ 2 ^ 54 ≤ M) ∧ j ≤ 64 ∧ w1 = wq)
  case first =>
    as_aux_lemma =>
      go_wp2_with fail
      go_loopg [2, 3] 64 (fun g s2 s3 w1 => ∃ (M : Nat) (X : Int) (j : Nat), g = 64 - j ∧ s2 = .int .u64 M ∧ s3 = .int .i64 X ∧ Hid (H1 m x M X j) ∧ M < 18446744073709551616 ∧ -1000100 ≤ X ∧ X ≤ 1000100 ∧ j ≤ 64 ∧ w1 = wq)
      case atStart => exact ⟨m, x + 52, 0, rfl, rfl, rfl, Lib.hid (H1.start m x hm), hm, by omega, by omega, by omega, rfl⟩
      case round =>
        obtain ⟨M, X, j, hg, rfl, rfl, HH, b1, b2, b3, b4, rfl⟩ := hrel
        have Hg := Lib.hid hg
        clear hg
        go_wp2_with fail
        · have q : M = 0 := by assumption
          go_meet
          exact ⟨M, X, j, vi (by omega), rfl, HH.out, Or.inl q, b4, rfl⟩
        · have q : ((M : Int) != 0) = true ∧ ((M : Int) / 18014398509481984 == 0) = true := by assumption
          have q1 := bne_iff_ne.1 q.1
          have q2 := beq_iff_eq.1 q.2
          have hj := HH.out.jlt (by omega) (by omega)
          go_roundg (64 - (j + 1))
          case measure => have := Hg.out; omega
          case rel => exact ⟨M * 2, X - 1, j + 1, rfl, vi (by rw [IntWalk.u64_in _ (by omega)]; omega), rfl, Lib.hid (HH.out.next (by omega)), by omega, by have := HH.out.eX; omega, by omega, by omega, rfl⟩
        · have q0 : ¬ M = 0 := by assumption
          have q : ((M : Int) != 0) = false ∨ ((M : Int) / 18014398509481984 == 0) = false := by assumption
          go_meet
          refine ⟨M, X, j, rfl, rfl, HH.out, Or.inr ?_, b4, rfl⟩
          rcases q with q | q
          · have := bne_eq_false_iff_eq.1 q; omega
          · have := beq_eq_false_iff_ne.1 q; omega
  case rest =>
    obtain ⟨M, X, j, rfl, rfl, HH, hM0, bj, rfl⟩ := hcut
    have b1 : M < 18446744073709551616 := HH.lt
    have bX : -1000100 ≤ X ∧ X ≤ 1000100 := by
      have := HH.eX
      omega
    have HH1 := Lib.hid HH
    clear HH
    obtain ⟨M1, hM1⟩ : ∃ M1, M1 = if tr then M ||| 1 else M := ⟨_, rfl⟩
    have b2 : M1 < 18446744073709551616 := by
      rw [hM1]; split
      · exact Nat.or_lt_two_pow (n := 64) b1 (by decide)
      · exact b1
    have HM1 := Lib.hid hM1
    clear hM1
    go_upto_if 58 with fail
    go_cut [2] (fun s2 w1 => s2 = .int .u64 M1 ∧ w1 = wc)
    case first =>
      as_aux_lemma =>
        have ho := or_one M b1
        cases tr
        · go_wp2_with fail
          go_meet
          exact ⟨vi (by rw [HM1.out]; rfl), rfl⟩
        · go_wp2_with fail
          go_meet
          exact ⟨vi (by rw [HM1.out]; rfl), rfl⟩
    case rest =>
      obtain ⟨rfl, rfl⟩ := hcut
      go_upto_block 2 with fail
      go_cut [2, 3] (fun s2 s3 w1 => ∃ (M2 : Nat) (X2 : Int) (j2 : Nat), s2 = .int .u64 M2 ∧ s3 = .int .i64 X2 ∧ H2 M1 X M2 X2 j2 ∧ M2 < 2 ^ 55 ∧ -1000100 ≤ X2 ∧ X2 ≤ 1000200 ∧ w1 = wc)
      case first =>
        as_aux_lemma =>
          go_wp2_with fail
          go_loopg [2, 3] M1 (fun g s2 s3 w1 => ∃ (M2 : Nat) (X2 : Int) (j2 : Nat), g = M2 ∧ s2 = .int .u64 M2 ∧ s3 = .int .i64 X2 ∧ Hid (H2 M1 X M2 X2 j2) ∧ M2 < 18446744073709551616 ∧ -1000100 ≤ X2 ∧ X2 ≤ 1000200 ∧ w1 = wc)
          case atStart => exact ⟨M1, X, 0, rfl, rfl, rfl, Lib.hid (H2.start M1 X b2), b2, by omega, by omega, rfl⟩
          case round =>
            obtain ⟨M2, X2, j2, hg, rfl, rfl, HH, b3, b4, b5, rfl⟩ := hrel
            have Hg := Lib.hid hg
            clear hg
            have ho : bits BinOp.or IntKind.u64 ((M2 : Int) / 2) (bits BinOp.and IntKind.u64 (M2 : Int) 1) = ((M2 / 2 ||| M2 % 2 : Nat) : Int) := by
              rw [and_one_u64 _ (by omega) (by omega)]
              have := bits_or_u64 (M2 / 2) (M2 % 2) (by omega) (by omega)
              rw [← this]; simp
            have Ho := Lib.hid ho
            clear ho
            go_wp2_with fail
            · have q := bne_iff_ne.1 ‹((M2 : Int) / 36028797018963968 != 0) = true›
              have hn := HH.out.next (by omega)
              have hx := hn.eX
              have hj := hn.jle
              have hs := sticky_le M2
              go_roundg (M2 / 2 ||| M2 % 2)
              case measure => rw [Hg.out]; omega
              case rel => exact ⟨_, X2 + 1, j2 + 1, rfl, vi (by rw [Ho.out]), rfl, Lib.hid hn, hn.lt64, by omega, by omega, rfl⟩
            · have q := bne_eq_false_iff_eq.1 ‹((M2 : Int) / 36028797018963968 != 0) = false›
              go_meet
              exact ⟨M2, X2, j2, rfl, rfl, HH.out, by omega, b4, b5, rfl⟩
      case rest =>
        obtain ⟨M2, X2, j2, rfl, rfl, HH, hM2, bX1, bX2, rfl⟩ := hcut
        have HH2 := Lib.hid HH
        clear HH
        go_upto_block 4 with fail
        go_cut [2, 3] (fun s2 s3 w1 => ∃ (M3 : Nat) (X3 : Int), s2 = .int .u64 M3 ∧ s3 = .int .i64 X3 ∧ M3 < 2 ^ 55 ∧ ((M3 = M2 ∧ X3 = X2) ∨ X3 ≤ -1024) ∧ X2 ≤ X3 ∧ (M3 ≤ 1 ∨ -1024 ≤ X3) ∧ -1000100 ≤ X3 ∧ X3 ≤ 1000200 ∧ w1 = wc)
        case first =>
          as_aux_lemma =>
            go_wp2_with fail
            go_loopg [2, 3] M2 (fun g s2 s3 w1 => ∃ (M3 : Nat) (X3 : Int), g = M3 ∧ s2 = .int .u64 M3 ∧ s3 = .int .i64 X3 ∧ M3 < 2 ^ 55 ∧ Hid ((M3 = M2 ∧ X3 = X2) ∨ X3 ≤ -1024) ∧ X2 ≤ X3 ∧ -1000100 ≤ X3 ∧ X3 ≤ 1000200 ∧ w1 = wc)
            case atStart => exact ⟨M2, X2, rfl, rfl, rfl, hM2, Lib.hid (Or.inl ⟨rfl, rfl⟩), Int.le_refl _, bX1, bX2, rfl⟩
            case round =>
              obtain ⟨M3, X3, hg, rfl, rfl, b3, HQ, b23, b4, b5, rfl⟩ := hrel
              have Hg := Lib.hid hg
              clear hg
              have ho : bits BinOp.or IntKind.u64 ((M3 : Int) / 2) (bits BinOp.and IntKind.u64 (M3 : Int) 1) = ((M3 / 2 ||| M3 % 2 : Nat) : Int) := by
                rw [and_one_u64 _ (by omega) (by omega)]
                have := bits_or_u64 (M3 / 2) (M3 % 2) (by omega) (by omega)
                rw [← this]; simp
              have Ho := Lib.hid ho
              clear ho
              by_cases h1 : 1 < M3
              · by_cases h2 : X3 < -1024
                · go_wp2_with fail
                  have hs := sticky_le2 M3
                  go_roundg (M3 / 2 ||| M3 % 2)
                  case measure => rw [Hg.out]; omega
                  case rel => exact ⟨_, X3 + 1, rfl, vi (by rw [Ho.out]), rfl, by omega, Lib.hid (Or.inr (by omega)), by omega, by omega, by omega, rfl⟩
                · go_wp2_with fail
                  go_meet
                  exact ⟨M3, X3, rfl, rfl, b3, HQ.out, b23, Or.inr (by omega), b4, b5, rfl⟩
              · go_wp2_with fail
                go_meet
                exact ⟨M3, X3, rfl, rfl, b3, HQ.out, b23, Or.inl (by omega), b4, b5, rfl⟩
        case rest =>
          obtain ⟨M3, X3, rfl, rfl, b3, HQ0, b23, HP0, b4, b5, rfl⟩ := hcut
          have HQ := Lib.hid HQ0
          have HP := Lib.hid HP0
          clear HQ0 HP0
          have Hmod := Lib.hid (show bits BinOp.or IntKind.u64 (bits BinOp.and IntKind.u64 (M3 : Int) 3) (bits BinOp.and IntKind.u64 ((M3 : Int) / 4) 1) = ((M3 % 4 ||| M3 / 4 % 2 : Nat) : Int) by
            rw [and_one_u64 _ (by omega) (by omega)]
            have h3 := bits_mask .u64 64 (by decide) wraps_u64 2 (by decide) (M3 : Int) (by omega) (by omega)
            rw [show (2 : Int) ^ 2 - 1 = 3 from rfl] at h3
            rw [h3]
            have := bits_or_u64 (M3 % 4) (M3 / 4 % 2) (by omega) (by omega)
            rw [← this]; simp)
          go_upto_region 19 with fail
          rw [Hmod.out]
          obtain ⟨RD, hRD⟩ : ∃ RD, RD = (M3 % 4 ||| M3 / 4 % 2) := ⟨_, rfl⟩
          rw [← hRD]
          have HRD := Lib.hid hRD
          clear hRD
          go_upto_if 103 with fail
          go_cut [2, 3] (fun s2 s3 w1 => ∃ (MR : Nat) (XR : Int), s2 = .int .u64 MR ∧ s3 = .int .i64 XR ∧ HR M3 X3 MR XR ∧ w1 = wc)
          case first =>
            as_aux_lemma =>
              by_cases h3 : RD = 3
              · have ho := (three_of M3).1 (by rw [← HRD.out]; exact h3)
                by_cases hf : M3 / 4 + 1 = 9007199254740992
                · have q : ((M3 : Int) / 4 + 1 == 9007199254740992) = true := by rw [beq_iff_eq]; omega
                  have Ho := Lib.hid ho
                  have Hf := Lib.hid hf
                  clear ho hf
                  go_wp2_with fail
                  go_meet
                  have ho := Ho.out
                  have hf := Hf.out
                  exact ⟨4503599627370496, X3 + 3, vi (by omega), vi (by omega), ⟨by decide, by omega, by omega, fun _ => rfl, by omega, by omega⟩, rfl⟩
                · have q : ((M3 : Int) / 4 + 1 == 9007199254740992) = false := by rw [beq_eq_false_iff_ne]; omega
                  have Ho := Lib.hid ho
                  have Hf := Lib.hid hf
                  clear ho hf
                  go_wp2_with fail
                  go_meet
                  have ho := Ho.out
                  have hf := Hf.out
                  exact ⟨M3 / 4 + 1, X3 + 2, vi (by omega), vi (by omega), ⟨by omega, by omega, by omega, by omega, by omega, by omega⟩, rfl⟩
              · have ho : ¬ (M3 % 4 = 3 ∨ (M3 % 4 = 2 ∧ M3 / 4 % 2 = 1)) := fun h => h3 (by rw [HRD.out]; exact (three_of M3).2 h)
                have q : ((RD : Int) == 3) = false := by rw [beq_eq_false_iff_ne]; omega
                have Ho := Lib.hid ho
                have Hf := Lib.hid h3
                clear ho h3
                go_wp2_with fail
                go_meet
                have ho := Ho.out
                exact ⟨M3 / 4, X3 + 2, vi (by omega), vi (by omega), ⟨by omega, by omega, by omega, by omega, by omega, by omega⟩, rfl⟩
          case rest =>
            obtain ⟨MR, XR, rfl, rfl, hr0, rfl⟩ := hcut
            have hover := hex_over m x tr M X j M1 M2 j2 X2 M3 X3 MR XR hm HH1.out hM0 bj Htr.out HM1.out HH2.out hM2 HQ.out b23 b3 hr0
            have c6 := hr0.lt
            have c7 := hr0.x
            have Hov := Lib.hid hover
            have Hr := Lib.hid hr0
            clear hover hr0
            have b6 : 2 ^ 52 ≤ MR → -1022 ≤ XR := by
              intro h
              have := HP.out; have := Hr.out.hi; have := Hr.out.x
              omega
            have Hb6 := Lib.hid b6
            clear b6
            go_upto_if 124 with fail
            go_cut [3] (fun s3 w1 => ∃ XM : Int, s3 = .int .i64 XM ∧ (MR < 2 ^ 52 → XM = -1023) ∧ (2 ^ 52 ≤ MR → XM = XR) ∧ w1 = wc)
            case first =>
              as_aux_lemma =>
                by_cases h52 : MR < 4503599627370496
                · have q : ((MR : Int) / 4503599627370496 == 0) = true := by rw [beq_iff_eq]; omega
                  go_wp2_with fail
                  go_meet
                  exact ⟨-1023, rfl, fun _ => rfl, by omega, rfl⟩
                · have q : ((MR : Int) / 4503599627370496 == 0) = false := by rw [beq_eq_false_iff_ne]; omega
                  go_wp2_with fail
                  go_meet
                  exact ⟨XR, rfl, by omega, fun _ => rfl, rfl⟩
            case rest =>
              obtain ⟨XM, rfl, e1, e2, rfl⟩ := hcut
              have He1 := Lib.hid e1
              have He2 := Lib.hid e2
              clear e1 e2
              have bm : -1023 ≤ XM := by
                have := He1.out; have := He2.out; have := Hb6.out; omega
              have bm2 : XM ≤ 1000300 := by
                have := He1.out; have := He2.out; omega
              go_upto_if 131 with fail
              go_cut [2, 3, 17] (fun s2 s3 s17 w1 => ∃ (MF : Nat) (E : Nat) (ev : Value), s2 = .int .u64 MF ∧ s3 = .int .i64 ((E : Int) - 1023) ∧ s17 = ev ∧ MF < 2 ^ 53 ∧ ((ev = .iface 79 (.int .i64 1) ∧ bigX (if tr then m ||| 1 else m) x ∧ MF = 2 ^ 52 ∧ E = 2047) ∨ (ev = .nilIface ∧ ¬ bigX (if tr then m ||| 1 else m) x ∧ E ≤ 2046)) ∧ w1 = wc)
              case first =>
                as_aux_lemma =>
                  by_cases h : 1023 < XM
                  · go_wp2_with fail
                    go_meet
                    refine ⟨4503599627370496, 2047, .iface 79 (.int .i64 1), rfl, rfl, rfl, by decide, Or.inl ⟨rfl, ?_, by decide, rfl⟩, rfl⟩
                    refine Hov.out.1 ?_
                    have := He1.out; have := He2.out
                    omega
                  · go_wp2_with fail
                    go_meet
                    refine ⟨MR, (XM + 1023).toNat, .nilIface, rfl, vi (by omega), rfl, c6, Or.inr ⟨rfl, ?_, by omega⟩, rfl⟩
                    intro hb
                    have := Hov.out.2 hb
                    have := He1.out; have := He2.out
                    omega
              case rest =>
                obtain ⟨MF, E, ev, rfl, rfl, rfl, c8, hcase, rfl⟩ := hcut
                have c9 : E ≤ 2047 := by rcases hcase with h | h <;> omega
                have hnn : nan64 (MF % 4503599627370496 + E * 4503599627370496) = false ∧ nan64 (9223372036854775808 + (MF % 4503599627370496 + E * 4503599627370496)) = false := by
                  unfold nan64 infPos
                  rcases hcase with ⟨_, _, h1, h2⟩ | ⟨_, _, h1⟩
                  · rw [h1, h2]; decide
                  · constructor <;> (simp only [decide_eq_false_iff_not]; omega)
                have Hcase := Lib.hid hcase
                have Hnn := Lib.hid hnn
                clear hcase hnn
                obtain ⟨F, hF⟩ : ∃ F, F = MF % 4503599627370496 := ⟨_, rfl⟩
                have cF : F < 4503599627370496 := by omega
                have a1 : bits BinOp.and IntKind.u64 (MF : Int) 4503599627370495 = (F : Int) := by
                  have h3 := bits_mask .u64 64 (by decide) wraps_u64 52 (by decide) (MF : Int) (by omega) (by omega)
                  rw [show (2 : Int) ^ 52 - 1 = 4503599627370495 from rfl] at h3
                  rw [h3, hF]; omega
                have a2 : bits BinOp.and IntKind.i64 (E : Int) 2047 = (E : Int) := by
                  have h3 := bits_mask .i64 63 (by decide) (fun n h0 h1 => by rw [IntKind.wrap_i64]; omega) 11 (by decide) (E : Int) (by omega) (by omega)
                  rw [show (2 : Int) ^ 11 - 1 = 2047 from rfl] at h3
                  rw [h3]; omega
                have a3 : bits BinOp.or IntKind.u64 (F : Int) ((E : Int) * 4503599627370496) = ((F + E * 4503599627370496 : Nat) : Int) := by
                  have h3 := bits_or_u64 F (E * 4503599627370496) (by omega) (by omega)
                  have h4 := pack_or false F E cF (by omega)
                  simp only [sgn, Bool.false_eq_true, if_false, Nat.zero_add] at h4
                  rw [h4] at h3
                  rw [← h3]; simp
                have a4 : bits BinOp.or IntKind.u64 ((F + E * 4503599627370496 : Nat) : Int) 9223372036854775808 = ((9223372036854775808 + (F + E * 4503599627370496) : Nat) : Int) := by
                  have h3 := bits_or_u64 (F + E * 4503599627370496) 9223372036854775808 (by omega) (by decide)
                  have h4 := or_disj 9223372036854775808 (F + E * 4503599627370496) true rfl (by omega)
                  rw [Nat.or_comm, h4] at h3
                  exact h3
                rw [← hF] at Hnn
                clear hF
                obtain ⟨B, hB⟩ : ∃ B, B = F + E * 4503599627370496 := ⟨_, rfl⟩
                rw [← hB] at a3 a4 Hnn
                have HB := Lib.hid hB
                have cB : B < 9223372036854775808 := by omega
                clear hB
                go_upto_region 32 with fail
                cases neg
                · as_aux_lemma =>
                    go_quiet (fail)
                    have hq := Heql.out nq
                    go_wp2_with fail
                    go_ret2
                    refine ⟨⟨B, _, rfl, Hnn.out.1, ?_⟩, ?_⟩
                    · rcases Hcase.out with h | h
                      · exact Or.inl ⟨h.1, h.2.1⟩
                      · exact Or.inr ⟨h.1, h.2.1⟩
                    · exact ⟨_, by rw [Hwq.out]; simp only [World.drewN_drewN]; rfl⟩
                · as_aux_lemma =>
                    go_quiet (fail)
                    go_wp2_with fail
                    go_quiet (fail)
                    have hq := fun n => Heql.out n
                    go_wp2_with fail
                    go_ret2
                    refine ⟨⟨9223372036854775808 + B, _, rfl, Hnn.out.2, ?_⟩, ?_⟩
                    · rcases Hcase.out with h | h
                      · exact Or.inl ⟨h.1, h.2.1⟩
                      · exact Or.inr ⟨h.1, h.2.1⟩
                    · exact ⟨_, by rw [Hwq.out]; simp only [World.drewN_drewN]; rfl⟩
end Go.Proofs.YtdfbokmjipdolaaGreatDoor
