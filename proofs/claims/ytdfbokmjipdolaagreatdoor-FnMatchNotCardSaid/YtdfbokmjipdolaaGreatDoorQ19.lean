/- Texts of the proof, joined: F9, G4. -/
import Derived.Test.YtdfbokmjipdolaaGreatDoorQ12
import Derived.Test.YtdfbokmjipdolaaGreatDoorP1
import Derived.Test.YtdfbokmjipdolaaGreatDoorH4
set_option linter.unusedVariables false
set_option linter.unusedSimpArgs false
/- spec.Said, the law's bounds, the law's closure. -/
namespace Go.Proofs.YtdfbokmjipdolaaGreatDoor
open Go.RowKit

theorem ec : EC FG eqf := ⟨fun s t w hs ht hg => eqf_any s t w hs ht hg, fun _ _ hg hb => hg.later hb, fun _ hg => ⟨hg.cs, hg.u8⟩, fun _ hg => by have := hg.sz; omega⟩
set_option maxRecDepth 100000 in
theorem said0 (t : ByteArray) (N : Int) (w : World) : Calls Tryz.prog 8 #[.agg #[.int .i64 0, .string t, .int .i64 N]] w fun e w' => e = .returned (.string t) ∧ Below w.heap.size w w' := by
  go_enter Tryz.func8, Tryz.ntmps8
  go_wp2_with fail
  go_ret
  exact ⟨rfl, (Below.refl _ _).alloc (Nat.le_refl _) _⟩
set_option maxRecDepth 100000 in
theorem said1 (t : ByteArray) (N : Int) (w : World) (h0 : -9223372036854775808 ≤ N) (h1 : N ≤ 9223372036854775807) : Calls Tryz.prog 8 #[.agg #[.int .i64 1, .string t, .int .i64 N]] w fun e w' => (∃ T : ByteArray, e = .returned (.string T) ∧ bsN T = itoaN N) ∧ Below w.heap.size w w' := by
  have H := Lib.hid (fun W => dec_any N.natAbs N W rfl h0 h1)
  go_enter Tryz.func8, Tryz.ntmps8
  go_wp2_with fail
  refine (H.out _).mono ?_
  rintro e w1 ⟨⟨T, rfl, hT⟩, hb⟩
  have HT := Lib.hid hT
  have HB := Lib.hid (((Below.refl w.heap.size w).alloc (Nat.le_refl _) _).trans (hb.mono (by simp)))
  clear hb hT
  go_wp2_with fail
  go_ret
  exact ⟨⟨T, rfl, HT.out⟩, HB.out⟩
/-- spec.Said -/
theorem said_any (K N : Int) (t : ByteArray) (w : World) (hK : K = 0 ∨ K = 1) (h0 : -9223372036854775808 ≤ N) (h1 : N ≤ 9223372036854775807) : Calls Tryz.prog 8 #[.agg #[.int .i64 K, .string t, .int .i64 N]] w fun e w' => (∃ T : ByteArray, e = .returned (.string T) ∧ Says K N t T) ∧ Below w.heap.size w w' := by
  rcases hK with rfl | rfl
  · refine (said0 t N w).mono ?_
    rintro e w' ⟨rfl, hb⟩
    exact ⟨⟨t, rfl, Or.inl ⟨rfl, rfl⟩⟩, hb⟩
  · refine (said1 t N w h0 h1).mono ?_
    rintro e w' ⟨⟨T, rfl, hT⟩, hb⟩
    exact ⟨⟨T, rfl, Or.inr ⟨rfl, hT⟩⟩, hb⟩
theorem fits9_any (K N : Int) (t : ByteArray) (w : World) : Calls Tryz.prog 10 #[.agg #[.int .i64 K, .string t, .int .i64 N]] w fun e w' => e = .returned (.bool (decide ((t.size : Int) ≤ 2147483647))) ∧ Below w.heap.size w w' := by
  by_cases h : (t.size : Int) ≤ 2147483647
  · go_enter Tryz.func10, Tryz.ntmps10
    go_wp2_with fail
    go_ret
    exact ⟨by rw [decide_eq_true h]; rfl, (Below.refl _ _).alloc (Nat.le_refl _) _⟩
  · have h2 : (2147483647 : Int) < t.size := by omega
    have e1 := decide_eq_false h
    clear h
    go_enter Tryz.func10, Tryz.ntmps10
    go_wp2_with fail
    go_ret
    exact ⟨by rw [e1]; rfl, (Below.refl _ _).alloc (Nat.le_refl _) _⟩
set_option maxRecDepth 100000 in
theorem fits14_any (m k K N : Int) (t : ByteArray) (c : Bool) (w : World) : Calls Tryz.prog 4 #[filtV m k K N t c] w fun e w' => e = .returned (.bool (decide ((t.size : Int) ≤ 2147483647))) ∧ Below w.heap.size w w' := by
  have H := Lib.hid (fun W => fits9_any K N t W)
  obtain ⟨B, hB⟩ : ∃ B, B = decide ((t.size : Int) ≤ 2147483647) := ⟨_, rfl⟩
  rw [← hB] at H ⊢
  clear hB
  unfold filtV
  cases B
  · go_enter Tryz.func4, Tryz.ntmps4
    go_wp2_with fail
    refine (H.out _).mono ?_
    rintro e w1 ⟨rfl, hb⟩
    have HB := Lib.hid (((Below.refl w.heap.size w).alloc (Nat.le_refl _) _).trans (hb.mono (by simp)))
    clear hb
    go_wp2_with fail
    go_ret
    exact ⟨rfl, HB.out⟩
  · go_enter Tryz.func4, Tryz.ntmps4
    go_wp2_with fail
    refine (H.out _).mono ?_
    rintro e w1 ⟨rfl, hb⟩
    have HB := Lib.hid (((Below.refl w.heap.size w).alloc (Nat.le_refl _) _).trans (hb.mono (by simp)))
    clear hb
    go_wp2_with fail
    go_ret
    exact ⟨rfl, HB.out⟩

/-- the world while the law asks -/
structure LW (w0 : World) (B2 B3 : Nat) (s : ByteArray) (m K N : Int) (t : ByteArray) (c : Bool) (W : World) : Prop where
  c2 : W.cell? ⟨B2, 0, none⟩ = some (.string s)
  b3 : ∃ k : Int, W.heap[B3]? = some (.cells #[.int .i64 m, .int .i64 k, .int .i64 K, .string t, .int .i64 N, .bool c] 25 (0, 0))
  hb2 : w0.heap.size ≤ B2
  hb3 : w0.heap.size ≤ B3
  ne : B2 ≠ B3
  below : Below w0.heap.size w0 W
theorem LW.later {w0 W W' : World} {B2 B3 : Nat} {s t : ByteArray} {m K N : Int} {c : Bool} (h : LW w0 B2 B3 s m K N t c W) (hb : Below W.heap.size W W') : LW w0 B2 B3 s m K N t c W' := by
  obtain ⟨k, hk⟩ := h.b3
  exact ⟨(hb.cell (World.block_lt_of_cell? _ _ h.c2)).trans h.c2, ⟨k, by rw [hb.block _ (Array.getElem?_eq_some_iff.1 hk).1]; exact hk⟩, h.hb2, h.hb3, h.ne, h.below.trans (hb.mono h.below.size)⟩
theorem LW.set {w0 W : World} {B2 B3 : Nat} {s t : ByteArray} {m K N : Int} {c : Bool} (h : LW w0 B2 B3 s m K N t c W) (k : Int) : LW w0 B2 B3 s m K N t c (W.setCell ⟨B3, 1, none⟩ (.int .i64 k)) ∧ (W.setCell ⟨B3, 1, none⟩ (.int .i64 k)).heap[B3]? = some (.cells #[.int .i64 m, .int .i64 k, .int .i64 K, .string t, .int .i64 N, .bool c] 25 (0, 0)) := by
  obtain ⟨k0, hk⟩ := h.b3
  have h1 := heap_setCell_same W B3 1 _ 25 (.int .i64 k) hk
  refine ⟨⟨?_, ⟨k, h1⟩, h.hb2, h.hb3, h.ne, h.below.setCell (p := ⟨B3, 1, none⟩) h.hb3 _⟩, h1⟩
  rw [World.cell?_of_block (w := W) (a := ⟨B2, 0, none⟩) (heap_setCell_other W ⟨B3, 1, none⟩ B2 _ h.ne)]
  exact h.c2
set_option maxRecDepth 100000 in
set_option maxHeartbeats 1000000 in
theorem clo5_any {w0 W : World} {B2 B3 : Nat} {s t T : ByteArray} {m K N : Int} {c : Bool} (h : LW w0 B2 B3 s m K N t c W) (hg : FG w0) (k : Nat) (hk : k < 10) (hs : s.size ≤ 400) (hT : T.size ≤ 400) (h0 : -9223372036854775808 ≤ N) (h1 : N ≤ 9223372036854775807) (hv : Says K N t T) :
    Calls Tryz.prog 5 #[.int .i64 k, .pointer (some ⟨B3, 0, none⟩), .pointer (some ⟨B2, 0, none⟩)] W fun e W' => LW w0 B2 B3 s m K N t c W' ∧ ∃ r, e = .returned (.bool r) ∧ MRes lb lok eqf k s T (cellV K t N) c r := by
  obtain ⟨hS, hrow⟩ := h.set k
  have f1 := frozen_of_row W B3 1 _ 25 h.b3.choose_spec
  have a1 : W.cell? ⟨B3, 1, none⟩ = some (.int .i64 h.b3.choose) := by rw [cell_of_row W B3 1 _ 25 (0, 0) h.b3.choose_spec]; rfl
  obtain ⟨k0, hk0⟩ : ∃ k0, k0 = h.b3.choose := ⟨_, rfl⟩
  rw [← hk0] at a1
  have HM := Lib.hid (fun W' (hW' : Hid (LW w0 B2 B3 s m K N t c W')) => match_any light_any ec m K N t T s c k hk W' hs hT h0 h1 hv (hg.later hW'.out.below))
  obtain ⟨W1, hW1⟩ : ∃ W1, W1 = W.setCell ⟨B3, 1, none⟩ (.int .i64 k) := ⟨_, rfl⟩
  rw [← hW1] at hS hrow
  have HS := Lib.hid hS
  have c2 := hS.c2
  have c30 : W1.cell? ⟨B3, 0, none⟩ = some (.int .i64 m) := by rw [cell_of_row W1 B3 0 _ 25 (0, 0) hrow]; rfl
  have c31 : W1.cell? ⟨B3, 1, none⟩ = some (.int .i64 k) := by rw [cell_of_row W1 B3 1 _ 25 (0, 0) hrow]; rfl
  have c32 : W1.cell? ⟨B3, 2, none⟩ = some (.int .i64 K) := by rw [cell_of_row W1 B3 2 _ 25 (0, 0) hrow]; rfl
  have c33 : W1.cell? ⟨B3, 3, none⟩ = some (.string t) := by rw [cell_of_row W1 B3 3 _ 25 (0, 0) hrow]; rfl
  have c34 : W1.cell? ⟨B3, 4, none⟩ = some (.int .i64 N) := by rw [cell_of_row W1 B3 4 _ 25 (0, 0) hrow]; rfl
  have c35 : W1.cell? ⟨B3, 5, none⟩ = some (.bool c) := by rw [cell_of_row W1 B3 5 _ 25 (0, 0) hrow]; rfl
  have HW1 := Lib.hid hW1
  clear h hS hrow hk0 hv hg hW1
  unfold filtV at HM
  go_enter Tryz.func5, Tryz.ntmps5
  go_upto_region 2 with fail
  rw [← HW1.out]
  go_wp2_with fail
  refine (HM.out W1 HS).mono ?_
  rintro e W2 ⟨hb, r, rfl, hr⟩
  have HL := Lib.hid (HS.out.later hb)
  have HR := Lib.hid hr
  clear hb hr
  go_wp2_with fail
  go_ret
  exact ⟨HL.out, r, rfl, HR.out⟩
end Go.Proofs.YtdfbokmjipdolaaGreatDoor
/- The plain law of the answers. -/
namespace Go.Proofs.YtdfbokmjipdolaaGreatDoor
open Go.RowKit

theorem lw_dig {x : Nat} (h : x < 10) : lw (48 + x) = 48 + x := by
  have : ∀ y : Fin 10, lw (48 + y.val) = 48 + y.val := by decide
  exact this ⟨x, h⟩
theorem mRun_digs : ∀ (ds : List Nat) (st : MS), (∀ x ∈ ds, x < 10) → (st.D ≠ [] ∨ ds.head? ≠ some 0) → st.dot = false →
    mRun false (ds.map (48 + ·)) st = (⟨st.D ++ ds, st.dp + ds.length, false, st.digs || decide (ds ≠ []), st.us⟩, [])
  | [], st, _, _, hd => by
    rw [List.map_nil, mRun_end]
    obtain ⟨D, dp, dot, digs, us⟩ := st
    simp only at hd
    subst hd
    simp
  | x :: ds, st, hx, hh, hd => by
    have h1 : x < 10 := hx x List.mem_cons_self
    have hn : ¬ (st.D = [] ∧ x = 0) := by
      rintro ⟨a, b⟩
      rcases hh with h | h
      · exact h a
      · exact h (by rw [b]; rfl)
    have hs : mStep false (48 + x) st = some ⟨st.D ++ [x], st.dp + 1, false, true, st.us⟩ := by
      have e1 : ¬ (48 + x = 95) := by omega
      have e2 : ¬ (48 + x = 46) := by omega
      have e3 : digOf false (48 + x) = some x := by rw [digOf_dec (by omega) (by omega)]; congr 1; omega
      unfold mStep
      rw [if_neg e1, if_neg e2, e3]
      unfold MS.digit
      rw [Option.map_some, if_neg hn, hd]
      simp
    rw [List.map_cons, mRun_cons false _ _ _ _ hs, mRun_digs ds _ (fun y hy => hx y (List.mem_cons_of_mem _ hy)) (Or.inl (by simp)) rfl]
    simp
    omega
theorem dd_head (m : Nat) (hm : m < 10 ^ 20) : ∃ y r, dd m = y :: r ∧ y < 10 := by
  have h1 := (ddF_len 19 m).2
  cases h : dd m with
  | nil => have : (dd m).length = (ddF 19 m).length := rfl; rw [h] at this; simp at this; omega
  | cons y r => exact ⟨y, r, rfl, ddF_dig 19 m y (by show y ∈ dd m; rw [h]; exact List.mem_cons_self)⟩
theorem lhex_digs (ds : List Nat) (h : ∀ x ∈ ds, x < 10) : lhex (ds.map (48 + ·)) = false := by
  match ds, h with
  | [], _ => rfl
  | [x], _ => rfl
  | x :: y :: r, h =>
    have hy : y < 10 := h y (by simp)
    unfold lhex
    simp only [List.map_cons, List.getElem?_cons_succ, List.getElem?_cons_zero, Option.getD_some, lw_dig hy]
    have : ((48 + y) == 120) = false := by rw [beq_eq_false_iff_ne]; omega
    rw [this, Bool.and_false]
theorem lF_dd (m : Nat) (h0 : 0 < m) (hm : m < 10 ^ 20) : lF ((dd m).map (48 + ·)) = (⟨dd m, (dd m).length, false, true, false⟩, []) := by
  have hd := ddF_dig 19 m
  have hx := lhex_digs (dd m) hd
  obtain ⟨y, r, hyr, _⟩ := dd_head m hm
  unfold lF lbody
  rw [hx, if_neg (by simp), mRun_digs (dd m) .start hd (Or.inr (ddF_lead 19 m hm h0)) rfl]
  simp [MS.start, hyr]
theorem lF_d0 : lF ((dd 0).map (48 + ·)) = (⟨[], 0, false, true, false⟩, []) := rfl
theorem lread_dd (m : Nat) (hm : m < 18446744073709551616) : ∃ R, lread ((dd m).map (48 + ·)) = some R ∧ (lbits R.1 R.2).2 = false := by
  have hx := lhex_digs (dd m) (ddF_dig 19 m)
  by_cases h0 : m = 0
  · subst h0
    refine ⟨([], 0), ?_, by rw [lbits_nil]⟩
    unfold lread
    rw [hx, lF_d0]
    rfl
  · have h1 : 0 < m := by omega
    have hF := lF_dd m h1 (by omega)
    obtain ⟨a, b, c⟩ := dd_ok h1 hm
    have hne : dd m ≠ [] := by obtain ⟨y, r, hyr, _⟩ := dd_head m (by omega); rw [hyr]; simp
    refine ⟨(ltrim (dd m), ((dd m).length : Int)), ?_, ?_⟩
    · unfold lread
      rw [hx, hF]
      simp [lXe, mkAt, hne]
    · obtain ⟨s, hs⟩ : ∃ s : Nat, 100000000 ≤ s := ⟨_, Nat.le_refl _⟩
      have L := lbits_wide s (ltrim (dd m)) (dd m).length hs a (by omega) (by omega) (by omega)
      cases hov : (lbits (ltrim (dd m)) (dd m).length).2 with
      | false => rfl
      | true =>
        have h2 := L.big.1 hov
        rw [dd_V s m (by omega)] at h2
        have h3 := Nat.le_of_mul_le_mul_right h2 (Nat.pow_pos (by decide))
        have h4 := thr_64
        omega
theorem itoaN_cons (N : Int) (h0 : -9223372036854775808 ≤ N) (h1 : N ≤ 9223372036854775807) : (∃ c r, itoaN N = c :: r ∧ (c = 45 ∨ (48 ≤ c ∧ c ≤ 57))) ∧ unsign (itoaN N) = (dd N.natAbs).map (48 + ·) ∧ ¬ 95 ∈ itoaN N ∧ ∀ x ∈ itoaN N, x < 256 := by
  have hm : N.natAbs < 10 ^ 20 := by omega
  obtain ⟨y, r, hyr, hy⟩ := dd_head N.natAbs hm
  have hd := ddF_dig 19 N.natAbs
  have hd2 : ∀ x ∈ dd N.natAbs, x < 10 := hd
  have hmem : ∀ x ∈ (dd N.natAbs).map (48 + ·), 48 ≤ x ∧ x ≤ 57 := by
    intro x hx
    obtain ⟨z, hz, rfl⟩ := List.mem_map.1 hx
    have := hd2 z hz
    show 48 ≤ 48 + z ∧ 48 + z ≤ 57
    omega
  unfold itoaN
  by_cases hn : N < 0
  · rw [if_pos hn]
    refine ⟨⟨45, _, rfl, Or.inl rfl⟩, rfl, ?_, ?_⟩
    · intro h
      rcases List.mem_cons.1 h with h | h
      · omega
      · have := hmem _ h; omega
    · intro x h
      rcases List.mem_cons.1 h with h | h
      · omega
      · have := hmem _ h; omega
  · rw [if_neg hn, show N.toNat = N.natAbs by omega]
    refine ⟨⟨48 + y, r.map (48 + ·), by rw [hyr]; rfl, Or.inr (by omega)⟩, ?_, fun h => by have := hmem _ h; omega, fun x h => by have := hmem _ h; omega⟩
    rw [hyr, List.map_cons]
    unfold unsign
    rw [if_neg]
    simp
    omega
theorem itoa_std (N : Int) (h0 : -9223372036854775808 ≤ N) (h1 : N ≤ 9223372036854775807) : stdOk (itoaN N) ∧ ¬ stdNan (itoaN N) := by
  obtain ⟨⟨c, r, hc, hc2⟩, hu, h95, _⟩ := itoaN_cons N h0 h1
  have hl : (itoaN N).length ≤ 400 := by have := itoaN_len N; omega
  constructor
  · rw [← lok_std _ hl]
    obtain ⟨R, hR, hov⟩ := lread_dd N.natAbs (by omega)
    exact Or.inr (Or.inr ⟨R, by rw [hu]; exact hR, by unfold uSc; rw [if_neg h95], hov⟩)
  · intro h
    unfold stdNan at h
    have h2 := ((sp_some h).2 rfl).1 rfl
    unfold lnan at h2
    rw [foldB_iff, hc, List.map_cons] at h2
    simp only [nanL, List.cons.injEq] at h2
    have := lowc_n h2.1
    omega
theorem ex_bytes (l : List Nat) (h : ∀ x ∈ l, x < 256) : ∃ T : ByteArray, bsN T = l := by
  refine ⟨⟨(l.map Nat.toUInt8).toArray⟩, ?_⟩
  unfold bsN
  rw [List.map_map]
  have : ∀ x ∈ l, (UInt8.toNat ∘ Nat.toUInt8) x = x := by
    intro x hx
    have := h x hx
    simp [Nat.toUInt8]
    omega
  rw [List.map_congr_left this]
  simp
theorem says_ex (K N : Int) (t : ByteArray) (hK : K = 0 ∨ K = 1) (ht : t.size ≤ 400) (h0 : -9223372036854775808 ≤ N) (h1 : N ≤ 9223372036854775807) : ∃ T, Says K N t T ∧ T.size ≤ 400 := by
  rcases hK with rfl | rfl
  · exact ⟨t, Or.inl ⟨rfl, rfl⟩, ht⟩
  · obtain ⟨T, hT⟩ := ex_bytes (itoaN N) (itoaN_cons N h0 h1).2.2.2
    exact ⟨T, Or.inr ⟨rfl, hT⟩, by have := txt_size hT; omega⟩
theorem says_uniq {K N : Int} {t T T' : ByteArray} (h : Says K N t T) (h' : Says K N t T') : T' = T := by
  rcases h with ⟨h, rfl⟩ | ⟨h, h2⟩
  · rcases h' with ⟨_, rfl⟩ | ⟨h', _⟩
    · rfl
    · omega
  · rcases h' with ⟨h', _⟩ | ⟨_, h2'⟩
    · omega
    · exact bsN_inj (h2'.trans h2.symm)

/-- both are numbers, and none is NaN -/
def Numb (s T : ByteArray) : Prop := stdOk (bsN s) ∧ stdOk (bsN T) ∧ ¬ stdNan (bsN s) ∧ ¬ stdNan (bsN T)
/-- the filter's number -/
noncomputable def fY (K N : Int) (t : ByteArray) : Nat := if K = 1 then floatOfInt .f64 N else lb (bsN t)
theorem fbits_y {K N : Int} {t T : ByteArray} (hv : Says K N t T) {y : Nat} (h : FBits lb lok (cellV K t N) (some y)) : y = fY K N t := by
  unfold FBits cellV at h
  unfold fY
  by_cases hK : K = 1
  · rw [if_pos hK] at h ⊢
    rcases h with ⟨T', h, _⟩ | ⟨N', h, rfl⟩
    · injection h with h; cases h
    · injection h with _ h
      injection h with _ h
      rw [h]
  · rw [if_neg hK] at h ⊢
    rcases h with ⟨T', h, _, rfl⟩ | ⟨N', h, _⟩
    · injection h with _ h
      injection h with h
      rw [h]
    · injection h with h; cases h
theorem fbits_no {K N : Int} {t T : ByteArray} (hv : Says K N t T) (hT : T.size ≤ 400) (h : FBits lb lok (cellV K t N) none) : ¬ stdOk (bsN T) := by
  unfold FBits cellV at h
  obtain ⟨T', h, hn⟩ := h
  by_cases hK : K = 1
  · rw [if_pos hK] at h; injection h with h; cases h
  · rw [if_neg hK] at h
    injection h with _ h
    injection h with h
    rcases hv with ⟨_, rfl⟩ | ⟨hv, _⟩
    · rw [← lok_std _ (by rw [bsN_len]; exact hT), h]; exact hn
    · exact absurd hv hK
theorem fy_nan {K N : Int} {t T : ByteArray} (hv : Says K N t T) (hT : T.size ≤ 400) (h0 : -9223372036854775808 ≤ N) (h1 : N ≤ 9223372036854775807) : nan64 (fY K N t) = true ↔ stdNan (bsN T) := by
  unfold fY
  rcases hv with ⟨rfl, rfl⟩ | ⟨rfl, h2⟩
  · rw [if_neg (by decide)]
    exact lb_nan _ (by rw [bsN_len]; exact hT)
  · rw [if_pos rfl, int_nan, h2]
    have := (itoa_std N h0 h1).2
    constructor
    · intro h; cases h
    · intro h; exact absurd h this
theorem fb_some {K N : Int} {t T : ByteArray} (hv : Says K N t T) (hT : T.size ≤ 400) (h0 : -9223372036854775808 ≤ N) (h1 : N ≤ 9223372036854775807) {y : Nat} (h : FBits lb lok (cellV K t N) (some y)) : stdOk (bsN T) := by
  rcases hv with ⟨rfl, rfl⟩ | ⟨rfl, h2⟩
  · unfold FBits cellV at h
    rw [if_neg (by decide)] at h
    rcases h with ⟨T', h, hl, _⟩ | ⟨N', h, _⟩
    · injection h with _ h
      injection h with h
      rw [← lok_std _ (by rw [bsN_len]; exact hT), h]; exact hl
    · injection h with h; cases h
  · rw [h2]; exact (itoa_std N h0 h1).1
section
variable {K N : Int} {s t T : ByteArray} {rel : Nat → Nat → Bool} {r : Bool}
theorem nres_yes (hv : Says K N t T) (hs : s.size ≤ 400) (hT : T.size ≤ 400) (hn : Numb s T) (h : NRes lb lok rel (bsN s) (cellV K t N) r) : r = rel (lb (bsN s)) (fY K N t) := by
  have hl : lok (bsN s) := (lok_std _ (by rw [bsN_len]; exact hs)).2 hn.1
  rcases h with ⟨h, _⟩ | ⟨_, h, _⟩ | ⟨_, y, h, rfl⟩
  · exact absurd hl h
  · exact absurd hn.2.1 (fbits_no hv hT h)
  · rw [fbits_y hv h]
theorem ord_num (hv : Says K N t T) (hs : s.size ≤ 400) (hT : T.size ≤ 400) (h0 : -9223372036854775808 ≤ N) (h1 : N ≤ 9223372036854775807) (hn : Numb s T) : ∃ o, Ieee.double.order (lb (bsN s)) (fY K N t) = some o := by
  cases h : Ieee.double.order (lb (bsN s)) (fY K N t) with
  | some o => exact ⟨o, rfl⟩
  | none =>
    rcases (order_none _ _).1 h with h | h
    · exact absurd ((lb_nan _ (by rw [bsN_len]; exact hs)).1 h) hn.2.2.1
    · exact absurd ((fy_nan hv hT h0 h1).1 h) hn.2.2.2
theorem law_gt (hv : Says K N t T) (hs : s.size ≤ 400) (hT : T.size ≤ 400) (h0 : -9223372036854775808 ≤ N) (h1 : N ≤ 9223372036854775807) (hn : Numb s T) {r2 r5 : Bool} (h2 : NRes lb lok fgt (bsN s) (cellV K t N) r2) (h5 : NRes lb lok fle (bsN s) (cellV K t N) r5) : r2 = !r5 := by
  rw [nres_yes hv hs hT hn h2, nres_yes hv hs hT hn h5]
  obtain ⟨o, ho⟩ := ord_num hv hs hT h0 h1 hn
  unfold fgt fle
  rw [ho]
  cases o <;> rfl
theorem law_lt (hv : Says K N t T) (hs : s.size ≤ 400) (hT : T.size ≤ 400) (h0 : -9223372036854775808 ≤ N) (h1 : N ≤ 9223372036854775807) (hn : Numb s T) {r4 r3 : Bool} (h4 : NRes lb lok flt (bsN s) (cellV K t N) r4) (h3 : NRes lb lok fge (bsN s) (cellV K t N) r3) : r4 = !r3 := by
  rw [nres_yes hv hs hT hn h4, nres_yes hv hs hT hn h3]
  obtain ⟨o, ho⟩ := ord_num hv hs hT h0 h1 hn
  unfold flt fge
  rw [ho]
  cases o <;> rfl
theorem nres_no (hv : Says K N t T) (hs : s.size ≤ 400) (hT : T.size ≤ 400) (h0 : -9223372036854775808 ≤ N) (h1 : N ≤ 9223372036854775807) (hn : ¬ Numb s T) (hrel : ∀ x y, Ieee.double.order x y = none → rel x y = false) (h : NRes lb lok rel (bsN s) (cellV K t N) r) : r = false := by
  rcases h with ⟨_, h⟩ | ⟨_, _, h⟩ | ⟨hl, y, h, rfl⟩
  · exact h
  · exact h
  · apply hrel
    have hp := (lok_std _ (by rw [bsN_len]; exact hs)).1 hl
    have hq := fb_some hv hT h0 h1 h
    rw [fbits_y hv h, order_none]
    by_cases ha : stdNan (bsN s)
    · exact Or.inl ((lb_nan _ (by rw [bsN_len]; exact hs)).2 ha)
    · by_cases hb : stdNan (bsN T)
      · exact Or.inr ((fy_nan hv hT h0 h1).2 hb)
      · exact absurd ⟨hp, hq, ha, hb⟩ hn
theorem fgt_none (x y : Nat) (h : Ieee.double.order x y = none) : fgt x y = false := by unfold fgt; rw [h]; rfl
theorem flt_none (x y : Nat) (h : Ieee.double.order x y = none) : flt x y = false := by unfold flt; rw [h]; rfl
end
end Go.Proofs.YtdfbokmjipdolaaGreatDoor
