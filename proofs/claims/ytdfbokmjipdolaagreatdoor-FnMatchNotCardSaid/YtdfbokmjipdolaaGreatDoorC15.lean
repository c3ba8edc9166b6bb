/- floatBits of Go's own decimal. -/
import Derived.Test.YtdfbokmjipdolaaGreatDoorQ14
import Derived.Test.YtdfbokmjipdolaaGreatDoorA7
set_option linter.unusedVariables false
set_option linter.unusedSimpArgs false
namespace Go.Proofs.YtdfbokmjipdolaaGreatDoor
open Go.RowKit

theorem p10_mono {a b : Nat} (h : a ≤ b) : p10 a ≤ p10 b := Nat.pow_le_pow_right (by decide) h
theorem big310 : thr * p10 1200 ≤ p10 1510 := by decide +kernel
/-- Go's table of shifts by places lies in the world, off block b -/
def pwt (i : Nat) : Nat := [1, 3, 6, 9, 13, 16, 19, 23, 26].getD i 0
def PwAt (w : World) (b : Nat) : Prop := b ≠ 10 ∧ ∃ tb ofs : Nat, tb ≠ b ∧ w.cell? ⟨10, 0, none⟩ = some (.slice (some ⟨tb, ofs, none⟩) 9 9) ∧ ∀ i < 9, w.cell? ⟨tb, ofs + i, none⟩ = some (.int .i64 (pwt i))

/-- floatBits' answer: no NaN's bits; overflow where the value is too great -/
def FBPost (w : World) (b : Nat) (t : TypeId) (S0 : Nat) (ng : Bool) (e : Ending) (w' : World) : Prop :=
  ∃ (B : Nat) (ov : Bool) (w1 : World) (d' : Array Nat) (n' : Nat) (dp' : Int) (tr' : Bool), e = .returned (.tuple #[.int .u64 B, .bool ov]) ∧ nan64 B = false ∧ B < 18446744073709551616 ∧ (ov = true ↔ bigS S0) ∧ Dr w w1 ∧ d'.size = 800 ∧ w' = wD w1 b t d' n' dp' ng tr'

theorem FBPost.of {w w1 W w' : World} {b : Nat} {t : TypeId} {d : Array Nat} {n : Nat} {dp : Int} {ng tr : Bool} {S0 B : Nat} {ov : Bool} {e : Ending} (hW : W = wD w1 b t d n dp ng tr) (hD : Dr w w1) (hs : d.size = 800) (hDW : Dr W w')
    (he : e = .returned (.tuple #[.int .u64 B, .bool ov])) (hn : nan64 B = false) (hB : B < 18446744073709551616) (hov : ov = true ↔ bigS S0) : FBPost w b t S0 ng e w' := by
  obtain ⟨q, rfl⟩ := hDW
  exact ⟨B, ov, _, d, n, dp, tr, he, hn, hB, hov, hD.more q, hs, by rw [hW]; rfl⟩
/-- what floatBits reads of the world -/
structure FbAt (W : World) (b : Nat) (n dp : Int) (ng : Bool) : Prop where
  nd : W.cell? ⟨b, 800, none⟩ = some (.int .i64 n)
  dp : W.cell? ⟨b, 801, none⟩ = some (.int .i64 dp)
  ng : W.cell? ⟨b, 802, none⟩ = some (.bool ng)
  i0 : W.cell? ⟨4, 0, none⟩ = some (.int .u64 52)
  i1 : W.cell? ⟨4, 1, none⟩ = some (.int .u64 11)
  i2 : W.cell? ⟨4, 2, none⟩ = some (.int .i64 (-1023))
theorem FbAt.of {w w1 : World} {b : Nat} {t : TypeId} {d : Array Nat} {n dp : Int} {ng tr : Bool} (hD : Dr w w1) (hb : b < w.heap.size) (hs : d.size = 800) (h4 : b ≠ 4) (hi : InfoAt w) : FbAt (wD w1 b t d n dp ng tr) b n dp ng := by
  have hb1 : b < w1.heap.size := by rw [hD.size]; exact hb
  have h4' : ∀ k, (wD w1 b t d n dp ng tr).cell? ⟨4, k, none⟩ = w.cell? ⟨4, k, none⟩ := fun k => by rw [cell_ne (by exact Ne.symm h4), hD.cell]
  exact ⟨cell_nd hb1 hs, cell_dp hb1 hs, cell_ng hb1 hs, by rw [h4']; exact hi.c0, by rw [h4']; exact hi.c1, by rw [h4']; exact hi.c2⟩

theorem ov_and0 : bits BinOp.and IntKind.u64 0 4503599627370495 = 0 := by decide +kernel
theorem ov_and1 : bits BinOp.and IntKind.i64 2047 2047 = 2047 := by decide +kernel
theorem ov_or0 : bits BinOp.or IntKind.u64 0 9218868437227405312 = 9218868437227405312 := by decide +kernel
theorem ov_or1 : bits BinOp.or IntKind.u64 9218868437227405312 9223372036854775808 = 18442240474082181120 := by decide +kernel

set_option maxRecDepth 100000 in
set_option maxHeartbeats 4000000 in
theorem fbits_over (w : World) (b : Nat) (t : TypeId) (d : Array Nat) (n : Nat) (dp : Int) (ng tr : Bool) (hb : b < w.heap.size) (hd : DN d n) (hdp : 310 < dp) (hdp' : dp ≤ 20000) (hb4 : b ≠ 4) (hi : InfoAt w) :
    Calls Tryz.prog 74 #[.pointer (some ⟨b, 0, none⟩), .pointer (some ⟨4, 0, none⟩)] (wD w b t d n dp ng tr) (FBPost w b t (sv d n dp) ng) := by
  have hs := hd.size
  have hn0 := hd.n0
  have hn8 := hd.n8
  have hbig : bigS (sv d n dp) := by
    have h1 := hd.sv_ge dp (by omega) (1199 + dp).toNat (by omega)
    refine Nat.le_trans ?_ h1
    refine Nat.le_trans ?_ (p10_mono (show 1510 ≤ (1199 + dp).toNat by omega))
    exact big310
  have Hbig := Lib.hid hbig
  clear hd hbig
  have g0 : ((n : Int) == 0) = false := by rw [beq_eq_false_iff_ne]; omega
  obtain ⟨W, hW⟩ : ∃ W, W = wD w b t d n dp ng tr := ⟨_, rfl⟩
  have F : FbAt W b n dp ng := by rw [hW]; exact FbAt.of (Dr.rfl' w) hb hs hb4 hi
  obtain ⟨f1, f2, f3, i0, i1, i2⟩ := F
  rw [← hW]
  have HW := Lib.hid hW
  clear hW hi
  go_enter Tryz.func74, Tryz.ntmps74
  go_wp2_with fail
  refine wp_scope_fwd fun J hJ => ?_
  have h1 := hJ 1 _ rfl
  clear hJ
  go_wp2_with fail
  refine wp_goto (h1 _ _ ?_)
  go_wp2_with fail
  go_quiet (fail)
  go_wp2_with fail
  go_step3
  have q1 := ov_and0
  have q2 := ov_and1
  have q3 := ov_or0
  have q4 := ov_or1
  go_wp2_with fail
  go_quiet (fail)
  cases ng
  · go_wp2_with fail
    rw [Exit.noGoto_ret]
    go_ret2
    exact FBPost.of HW.out (Dr.rfl' w) hs (by first | exact (Dr.rfl' _).more _ | exact ((Dr.rfl' _).more _).more _ | exact (((Dr.rfl' _).more _).more _).more _) (B := 9218868437227405312) (ov := true) rfl (by decide) (by decide) ⟨fun _ => Hbig.out, fun _ => rfl⟩
  · go_wp2_with fail
    go_quiet (fail)
    go_wp2_with fail
    rw [Exit.noGoto_ret]
    go_ret2
    exact FBPost.of HW.out (Dr.rfl' w) hs (by first | exact (Dr.rfl' _).more _ | exact ((Dr.rfl' _).more _).more _ | exact (((Dr.rfl' _).more _).more _).more _) (B := 18442240474082181120) (ov := true) rfl (by decide) (by decide) ⟨fun _ => Hbig.out, fun _ => rfl⟩

theorem zr_and1 : bits BinOp.and IntKind.i64 0 2047 = 0 := by decide +kernel
theorem zr_or0 : bits BinOp.or IntKind.u64 0 0 = 0 := by decide +kernel
theorem zr_or1 : bits BinOp.or IntKind.u64 0 9223372036854775808 = 9223372036854775808 := by decide +kernel
theorem small870 : p10 870 < thr * p10 1200 := by decide +kernel

set_option maxRecDepth 100000 in
set_option maxHeartbeats 4000000 in
theorem fbits_zero (w : World) (b : Nat) (t : TypeId) (d : Array Nat) (n : Nat) (dp : Int) (ng tr : Bool) (hb : b < w.heap.size) (hd : DN d n) (hdp : -360 ≤ dp) (hdp' : dp < -330) (hb4 : b ≠ 4) (hi : InfoAt w) :
    Calls Tryz.prog 74 #[.pointer (some ⟨b, 0, none⟩), .pointer (some ⟨4, 0, none⟩)] (wD w b t d n dp ng tr) (FBPost w b t (sv d n dp) ng) := by
  have hs := hd.size
  have hn0 := hd.n0
  have hn8 := hd.n8
  have hbig : ¬ bigS (sv d n dp) := by
    intro hbg
    have h1 := hd.sv_lt dp (by omega) (1200 + dp).toNat (by omega)
    have h2 := p10_mono (show (1200 + dp).toNat ≤ 870 by omega)
    have h3 := small870
    unfold bigS at hbg
    omega
  have Hbig := Lib.hid hbig
  clear hd hbig
  have g0 : ((n : Int) == 0) = false := by rw [beq_eq_false_iff_ne]; omega
  obtain ⟨W, hW⟩ : ∃ W, W = wD w b t d n dp ng tr := ⟨_, rfl⟩
  have F : FbAt W b n dp ng := by rw [hW]; exact FbAt.of (Dr.rfl' w) hb hs hb4 hi
  obtain ⟨f1, f2, f3, i0, i1, i2⟩ := F
  rw [← hW]
  have HW := Lib.hid hW
  clear hW hi
  go_enter Tryz.func74, Tryz.ntmps74
  go_wp2_with fail
  refine wp_scope_fwd fun J hJ => ?_
  have h0 := hJ 0 _ rfl
  clear hJ
  go_wp2_with fail
  refine wp_goto (h0 _ _ ?_)
  have q1 := ov_and0
  have q2 := zr_and1
  have q3 := zr_or0
  have q4 := zr_or1
  go_wp2_with fail
  go_quiet (fail)
  cases ng
  · go_wp2_with fail
    rw [Exit.noGoto_ret]
    go_ret2
    exact FBPost.of HW.out (Dr.rfl' w) hs (by first | exact (Dr.rfl' _).more _ | exact ((Dr.rfl' _).more _).more _ | exact (((Dr.rfl' _).more _).more _).more _) (B := 0) (ov := false) rfl (by decide) (by decide) ⟨fun h => (by cases h), fun h => (Hbig.out h).elim⟩
  · go_wp2_with fail
    go_quiet (fail)
    go_wp2_with fail
    rw [Exit.noGoto_ret]
    go_ret2
    exact FBPost.of HW.out (Dr.rfl' w) hs (by first | exact (Dr.rfl' _).more _ | exact ((Dr.rfl' _).more _).more _ | exact (((Dr.rfl' _).more _).more _).more _) (B := 9223372036854775808) (ov := false) rfl (by decide) (by decide) ⟨fun h => (by cases h), fun h => (Hbig.out h).elim⟩
end Go.Proofs.YtdfbokmjipdolaaGreatDoor
