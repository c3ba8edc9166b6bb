/- Texts of the proof, joined: F5, F6, F7, F8. -/
import Derived.Test.YtdfbokmjipdolaaGreatDoorQ11
import Derived.Deep.RegionHeld3
set_option linter.unusedVariables false
set_option linter.unusedSimpArgs false
/- ZzMatch, impl.cell. -/
namespace Go.Proofs.YtdfbokmjipdolaaGreatDoor
open Go.RowKit

set_option maxRecDepth 100000 in
theorem op_any {lb : List Nat → Nat} {lok : List Nat → Prop} (H : LC lb lok) {G : World → Prop} {eqf : ByteArray → ByteArray → Bool} (E : EC G eqf) (p v f0 f1 f5 : Value) (T s : ByteArray) (c : Bool) (k : Nat) (hk : k < 10) (w : World) (hs : s.size ≤ 400) (hT : T.size ≤ 400) (hv : FVal v T) (hg : G w) :
    Calls Tryz.prog 15 #[p, .string s, .agg #[f0, f1, .int .i64 (k : Int), v, .bool c, f5]] w fun e w' => Below w.heap.size w w' ∧ ∃ r, e = .returned (.bool r) ∧ MRes lb lok eqf k s T v c r := by
  have hk2 : k = 0 ∨ k = 1 ∨ k = 2 ∨ k = 3 ∨ k = 4 ∨ k = 5 ∨ k = 6 ∨ k = 7 ∨ k = 8 ∨ k = 9 := by omega
  rcases hk2 with rfl | rfl | rfl | rfl | rfl | rfl | rfl | rfl | rfl | rfl
  · exact op0_any H E p v f0 f1 f5 T s c w hs hT hv hg
  · exact op1_any H E p v f0 f1 f5 T s c w hs hT hv hg
  · exact op2_any H E p v f0 f1 f5 T s c w hs hT hv hg
  · exact op3_any H E p v f0 f1 f5 T s c w hs hT hv hg
  · exact op4_any H E p v f0 f1 f5 T s c w hs hT hv hg
  · exact op5_any H E p v f0 f1 f5 T s c w hs hT hv hg
  · exact op6_any H E p v f0 f1 f5 T s c w hs hT hv hg
  · exact op7_any H E p v f0 f1 f5 T s c w hs hT hv hg
  · exact op8_any H E p v f0 f1 f5 T s c w hs hT hv hg
  · exact op9_any H E p v f0 f1 f5 T s c w hs hT hv hg

noncomputable def z70 : Array Value := (Tryz.prog.built 70 []).getD #[]
theorem z70_is : (Tryz.prog.built 70 []).isSome = true := by kernel_rfl
theorem build70 {o : Oper} {a : Act} {w : World} {K : Act → World → Prop} {Q : Exit → Act → World → Prop} (ho : o.op = .build 70 #[]) (h : K (a.put o.dst (.agg z70)) w) : o.wp Tryz.prog a w K Q :=
  wp_build 70 #[] ho (by rw [Array.map_empty]; exact z70_is) (by rw [Array.map_empty]; exact h)
attribute [irreducible] z70
set_option maxHeartbeats 4000000 in
set_option maxRecDepth 100000 in
theorem zzMatch_any {lb : List Nat → Nat} {lok : List Nat → Prop} (H : LC lb lok) {G : World → Prop} {eqf : ByteArray → ByteArray → Bool} (E : EC G eqf) (v f0 f1 f5 : Value) (T s : ByteArray) (c : Bool) (k : Nat) (hk : k < 10) (w : World) (hs : s.size ≤ 400) (hT : T.size ≤ 400) (hv : FVal v T) (hg : G w) :
    Calls Tryz.prog 11 #[.string s, .agg #[f0, f1, .int .i64 (k : Int), v, .bool c, f5]] w fun e w' => Below w.heap.size w w' ∧ ∃ r, e = .returned (.bool r) ∧ MRes lb lok eqf k s T v c r := by
  have HC := Lib.hid (fun W (HG : Hid (G W)) (p : Value) => op_any H E p v f0 f1 f5 T s c k hk W hs hT hv HG.out)
  have HL := Lib.hid (fun o o2 => E.later w ((w.alloc o).alloc o2) hg (((Below.refl _ _).alloc (Nat.le_refl _) _).alloc (by simp) _))
  have HA := Lib.hid (fun o o2 => (((Below.refl w.heap.size w).alloc (Nat.le_refl _) o).alloc (by simp) o2))
  clear hg
  go_enter Tryz.func11, Tryz.ntmps11
  go_wp2_with fail
  refine build70 rfl ?_
  go_wp2_with fail
  refine (HC.out _ (Lib.hid (HL.out _ _)) _).mono ?_
  rintro e w1 ⟨hb, r, rfl, hr⟩
  have HB := Lib.hid ((HA.out _ _).trans (hb.mono (HA.out _ _).size))
  have HR := Lib.hid hr
  clear hb hr
  go_wp2_with fail
  go_ret
  exact ⟨HB.out, _, rfl, HR.out⟩

/-- the value of a cell -/
def cellV (K : Int) (t : ByteArray) (N : Int) : Value := if K = 1 then .iface 3 (.int .i64 N) else .iface 9 (.string t)
set_option maxRecDepth 100000 in
theorem cell_any (K N : Int) (t : ByteArray) (w : World) : Calls Tryz.prog 16 #[.agg #[.int .i64 K, .string t, .int .i64 N]] w fun e w' => e = .returned (cellV K t N) ∧ Below w.heap.size w w' := by
  have HA := Lib.hid (fun o => ((Below.refl w.heap.size w).alloc (Nat.le_refl _) o))
  by_cases h : K = 1
  · subst h
    go_enter Tryz.func16, Tryz.ntmps16
    go_wp2_with fail
    go_ret
    exact ⟨rfl, HA.out _⟩
  · go_enter Tryz.func16, Tryz.ntmps16
    go_wp2_with fail
    go_ret
    refine ⟨?_, HA.out _⟩
    show Ending.returned (.iface 9 (.string t)) = _
    rw [cellV, if_neg h]

end Go.Proofs.YtdfbokmjipdolaaGreatDoor
/- impl.filter, impl.Match. -/
namespace Go.Proofs.YtdfbokmjipdolaaGreatDoor
open Go.RowKit

/-- a filter as the caller has it -/
def filtV (m k K N : Int) (t : ByteArray) (c : Bool) : Value := .agg #[.int .i64 m, .int .i64 k, .int .i64 K, .string t, .int .i64 N, .bool c]
set_option maxRecDepth 100000 in
theorem cell_ex (K N : Int) (t : ByteArray) (w : World) : Calls Tryz.prog 16 #[.agg #[.int .i64 K, .string t, .int .i64 N]] w fun e w' => e = .returned (cellV K t N) ∧ w.alloc (.cells #[.int .i64 K, .string t, .int .i64 N] 23) = w' := by
  by_cases h : K = 1
  · subst h
    go_enter Tryz.func16, Tryz.ntmps16
    go_wp2_with fail
    go_ret
    exact ⟨rfl, rfl⟩
  · go_enter Tryz.func16, Tryz.ntmps16
    go_wp2_with fail
    go_ret
    refine ⟨?_, rfl⟩
    show Ending.returned (.iface 9 (.string t)) = _
    rw [cellV, if_neg h]
theorem three_blocks (w : World) (a b c : Obj) : ((((w.alloc a).alloc b).alloc c)).heap[w.heap.size + 1]? = some b := by
  show (((w.heap.push a).push b).push c)[w.heap.size + 1]? = some b
  rw [Array.getElem?_push, if_neg (by rw [Array.size_push, Array.size_push]; omega)]
  rw [show w.heap.size + 1 = (w.heap.push a).size from (Array.size_push ..).symm, Array.getElem?_push_size]
theorem c5_is (w : World) (a c : Obj) (v0 v1 v2 v3 v4 : Value) : World.cell? (((w.alloc a).alloc (.cells #[v0, v1, v2, v3, v4, .nilFunc] 38)).alloc c) ⟨w.heap.size + 1, 5, none⟩ = some .nilFunc := by
  unfold World.cell?
  dsimp only
  rw [three_blocks]
  rfl
theorem f5_is (w : World) (a c : Obj) (v0 v1 v2 v3 v4 : Value) : World.frozen? (((w.alloc a).alloc (.cells #[v0, v1, v2, v3, v4, .nilFunc] 38)).alloc c) ⟨w.heap.size + 1, 5, none⟩ = false := by
  unfold World.frozen?
  dsimp only
  rw [three_blocks]
  rfl
theorem setCell_id (W : World) (b o : Nat) (v : Value) (h : W.cell? ⟨b, o, none⟩ = some v) : W.setCell ⟨b, o, none⟩ v = W := by
  have e : (W.setCell ⟨b, o, none⟩ v).heap = W.heap := by
    apply Array.ext_getElem?
    intro i
    unfold World.setCell
    dsimp only
    rw [Array.getElem?_modify]
    split
    · rename_i hi
      subst hi
      unfold World.cell? at h
      dsimp only at h
      cases hb : W.heap[b]? with
      | none => rfl
      | some x =>
        rw [hb] at h
        cases x with
        | cells c e f =>
          dsimp only at h
          have h2 : c[o]? = some v := by simpa using h
          simp only [Option.map_some, Option.isSome_none]
          congr 2
          have : c.setIfInBounds o v = c := by
            apply Array.ext_getElem?
            intro j
            rw [Array.getElem?_setIfInBounds]
            split
            · rename_i hj; subst hj
              split
              · exact h2.symm
              · rename_i hj2
                exact (Array.getElem?_eq_none (by omega)).symm
            · rfl
          simpa using this
        | _ => simp at h
    · rfl
  cases W
  unfold World.setCell at e ⊢
  dsimp only at e ⊢
  rw [e]
theorem st5_is (w : World) (a c : Obj) (v0 v1 v2 v3 v4 : Value) : Sem.run Tryz.prog (store ⟨w.heap.size + 1, 5, none⟩ .nilFunc) ((((w.alloc a).alloc (.cells #[v0, v1, v2, v3, v4, .nilFunc] 38)).alloc c).drew) = .ok () ((((w.alloc a).alloc (.cells #[v0, v1, v2, v3, v4, .nilFunc] 38)).alloc c).drew) := by
  rw [run_store _ _ _ _ _ rfl]
  have h : World.cell? ((((w.alloc a).alloc (.cells #[v0, v1, v2, v3, v4, .nilFunc] 38)).alloc c).drew) ⟨w.heap.size + 1, 5, none⟩ = some .nilFunc := c5_is w a c v0 v1 v2 v3 v4
  have h2 : World.frozen? ((((w.alloc a).alloc (.cells #[v0, v1, v2, v3, v4, .nilFunc] 38)).alloc c).drew) ⟨w.heap.size + 1, 5, none⟩ = false := f5_is w a c v0 v1 v2 v3 v4
  rw [h]
  dsimp only
  rw [h2, setCell_id _ _ _ _ h]
  rfl
set_option maxHeartbeats 2000000 in
set_option maxRecDepth 100000 in
theorem filter_gen (m k K N : Int) (t : ByteArray) (c : Bool) (ty : TypeId) (u : Value) (w : World) (hcv : cellV K t N = .iface ty u) :
    Calls Tryz.prog 12 #[filtV m k K N t c] w fun e w' => e = .returned (.agg #[.string ByteArray.empty, .int .i64 m, .int .i64 k, .iface ty u, .bool c, .nilFunc]) ∧ Below w.heap.size w w' := by
  have HC := Lib.hid (fun W => hcv ▸ cell_ex K N t W)
  clear hcv
  have s5 := fun a c => st5_is w a c
  have q5 := fun a c => c5_is w a c
  have r5 := fun a c => f5_is w a c
  unfold filtV
  go_enter Tryz.func12, Tryz.ntmps12
  go_wp2_with fail
  go_region_held3 (fun w' => w'.cell? ⟨w.heap.size, 0, none⟩ = some (.int .i64 m) ∧ w'.cell? ⟨w.heap.size, 1, none⟩ = some (.int .i64 k) ∧ w'.cell? ⟨w.heap.size, 2, none⟩ = some (.int .i64 K) ∧ w'.cell? ⟨w.heap.size, 3, none⟩ = some (.string t) ∧ w'.cell? ⟨w.heap.size, 4, none⟩ = some (.int .i64 N) ∧ w'.cell? ⟨w.heap.size, 5, none⟩ = some (.bool c)) (go_keep)
    (first | (go_at_call 16; refine (HC.out _).mono ?_; rintro e w2 ⟨rfl, rfl⟩))
  have HB := Lib.hid (fun a b c => (((((Below.refl w.heap.size w).alloc (Nat.le_refl _) a).alloc (by simp) b).alloc (by simp; omega) c).drew))
  go_wp2_with fail
  refine bodyPost_ret (v := .agg #[.string ByteArray.empty, .int .i64 m, .int .i64 k, .iface ty u, .bool c, .nilFunc]) (by simp [results, Tryz.results12, go_sem, q5]; rfl) rfl ⟨rfl, HB.out _ _ _⟩
end Go.Proofs.YtdfbokmjipdolaaGreatDoor
/- impl.Match. -/
namespace Go.Proofs.YtdfbokmjipdolaaGreatDoor
open Go.RowKit

/-- what a cell says -/
def Says (K N : Int) (t T : ByteArray) : Prop := (K = 0 ∧ T = t) ∨ (K = 1 ∧ bsN T = itoaN N)
theorem says_FVal {K N : Int} {t T : ByteArray} (h : Says K N t T) (h0 : -9223372036854775808 ≤ N) (h1 : N ≤ 9223372036854775807) : FVal (cellV K t N) T ∧ ∃ ty u, cellV K t N = .iface ty u := by
  rcases h with ⟨rfl, rfl⟩ | ⟨rfl, h⟩
  · exact ⟨Or.inl (by simp [cellV]), 9, _, by simp [cellV]; rfl⟩
  · exact ⟨Or.inr ⟨N, h0, h1, by simp [cellV], h⟩, 3, _, by simp [cellV]; rfl⟩
set_option maxRecDepth 100000 in
theorem match_any {lb : List Nat → Nat} {lok : List Nat → Prop} (H : LC lb lok) {G : World → Prop} {eqf : ByteArray → ByteArray → Bool} (E : EC G eqf) (m K N : Int) (t T s : ByteArray) (c : Bool) (k : Nat) (hk : k < 10) (w : World) (hs : s.size ≤ 400) (hT : T.size ≤ 400) (h0 : -9223372036854775808 ≤ N) (h1 : N ≤ 9223372036854775807) (hv : Says K N t T) (hg : G w) :
    Calls Tryz.prog 6 #[.string s, filtV m k K N t c] w fun e w' => Below w.heap.size w w' ∧ ∃ r, e = .returned (.bool r) ∧ MRes lb lok eqf k s T (cellV K t N) c r := by
  obtain ⟨hf, ty, u, e⟩ := says_FVal hv h0 h1
  have HL := Lib.hid (fun o => E.later w (w.alloc o) hg ((Below.refl _ _).alloc (Nat.le_refl _) _))
  have HA := Lib.hid (fun o => ((Below.refl w.heap.size w).alloc (Nat.le_refl _) o))
  have HF := Lib.hid (fun W => filter_gen m k K N t c ty u W e)
  have HM := Lib.hid (fun W (HG : Hid (G W)) => e ▸ zzMatch_any H E (cellV K t N) (.string ByteArray.empty) (.int .i64 m) .nilFunc T s c k hk W hs hT hf HG.out)
  have Hlater := Lib.hid E.later
  have He := Lib.hid e
  clear hg hv hf e h0 h1
  unfold filtV at *
  go_enter Tryz.func6, Tryz.ntmps6
  go_wp2_with fail
  refine (HF.out _).mono ?_
  rintro e w1 ⟨rfl, hb⟩
  have HG1 := Lib.hid (Hlater.out _ _ (HL.out _) hb)
  have HB := Lib.hid ((HA.out _).trans (hb.mono (HA.out _).size))
  clear hb
  go_wp2_with fail
  refine (HM.out _ HG1).mono ?_
  rintro e w2 ⟨hb, r, rfl, hr⟩
  have HB2 := Lib.hid (HB.out.trans (hb.mono HB.out.size))
  have HR := Lib.hid hr
  clear hb hr
  go_wp2_with fail
  go_ret
  exact ⟨HB2.out, _, rfl, by rw [He.out]; exact HR.out⟩

end Go.Proofs.YtdfbokmjipdolaaGreatDoor
/- spec.Decimal, spec.Said. -/
namespace Go.Proofs.YtdfbokmjipdolaaGreatDoor
open Go.RowKit

/-- one byte's text -/
theorem one_str (x : Nat) (hx : x < 256) : bsN (strOfNums [(x : Int)]) = [x] := by
  unfold bsN
  rw [strOfNums_data]
  simp
  omega
theorem one_conv (b : Nat) (x : Nat) (w : World) (h : w.cell? ⟨b, 0, none⟩ = some (.int .u8 x)) : Sem.run Tryz.prog (convert 73 9 (.slice (some ⟨b, 0, none⟩) 1 1)) w = .ok (.string (strOfNums [(x : Int)])) w :=
  run_convert_bytes_arg w 73 5 Tryz.underlying73 Tryz.underlying5 b 0 1 1 [(x : Int)] rfl (fun i hi => by
    have : i = 0 := by omega
    subst this
    exact h) 9 Tryz.underlying9
theorem wrap_u8 (x : Nat) (hx : x < 256) : IntKind.u8.wrap (x : Int) = x := by
  simp [IntKind.wrap, IntKind.bits, IntKind.signed]; omega
set_option maxRecDepth 100000 in
theorem dec0 (n : Nat) (hn : n < 10) (w : World) : Calls Tryz.prog 14 #[.int .i64 (n : Int)] w fun e w' => (∃ t : ByteArray, e = .returned (.string t) ∧ bsN t = itoaN n) ∧ Below w.heap.size w w' := by
  have q := fun W h => one_conv w.heap.size (48 + n) W h
  have hz : ((48 + n : Nat) : Int) = 48 + (n : Int) := by omega
  rw [hz] at q
  have hw := wrap_u8 (48 + n) (by omega)
  rw [hz] at hw
  go_enter Tryz.func14, Tryz.ntmps14
  go_wp2_with fail
  go_ret
  refine ⟨⟨_, rfl, ?_⟩, (Below.refl _ _).alloc (Nat.le_refl _) _⟩
  rw [← hz, one_str _ (by omega)]
  unfold itoaN
  rw [if_neg (by omega), Int.toNat_natCast, dd_step n (by omega), if_pos hn]
  rfl

theorem bsN_app (a b : ByteArray) : bsN (a ++ b) = bsN a ++ bsN b := by
  unfold bsN
  simp
theorem q10 (n : Nat) : (n : Int).tdiv 10 = ((n / 10 : Nat) : Int) := by
  rw [Int.tdiv_eq_ediv_of_nonneg (by omega)]; omega
theorem r10 (n : Nat) : (n : Int).tmod 10 = ((n % 10 : Nat) : Int) := by
  rw [Int.tmod_eq_emod_of_nonneg (by omega)]; omega
theorem lt_lem (w : World) (o : Obj) : (⟨w.heap.size, 0, none⟩ : Addr).block < (w.alloc o).drew.heap.size := by simp
theorem cell_lem (w : World) (v : Value) : (w.alloc (.cells #[v] 5)).drew.cell? ⟨w.heap.size, 0, none⟩ = some v := by simp
theorem itoaN_len (n : Int) : (itoaN n).length ≤ 21 := by
  unfold itoaN
  split
  · have := (ddF_len 19 n.natAbs).1
    simp [dd]; omega
  · have := (ddF_len 19 n.toNat).1
    simp [dd]; omega
theorem txt_size {t : ByteArray} {n : Int} (h : bsN t = itoaN n) : t.size ≤ 21 := by
  rw [← bsN_len, h]; exact itoaN_len n
theorem lt_21 {t : ByteArray} (h : t.size ≤ 21) : ¬ (9223372036854775807 < t.size + 1) := by omega
theorem lt_21i {t : ByteArray} (h : t.size ≤ 21) : ¬ ((9223372036854775807 : Int) < (t.size : Int) + 1) := by omega
theorem one_size (x : Int) : (strOfNums [x]).size = 1 := by
  show (strOfNums [x]).data.size = 1
  rw [← Array.length_toList, strOfNums_data]; rfl
set_option maxHeartbeats 2000000 in
set_option maxRecDepth 100000 in
theorem decS (n e d : Nat) (hn : 10 ≤ n) (hN : n ≤ 9223372036854775807) (hd : d < 10) (he : e ≤ 922337203685477580) (hq : (n : Int).tdiv 10 = (e : Int)) (hr : (n : Int).tmod 10 = (d : Int)) (IH : ∀ w, Calls Tryz.prog 14 #[.int .i64 (e : Int)] w fun e2 w' => (∃ t : ByteArray, e2 = .returned (.string t) ∧ bsN t = itoaN e) ∧ Below w.heap.size w w') (w : World) :
    Calls Tryz.prog 14 #[.int .i64 (n : Int)] w fun e2 w' => (∃ t : ByteArray, e2 = .returned (.string (t ++ strOfNums [48 + (d : Int)])) ∧ bsN t = itoaN e) ∧ Below w.heap.size w w' := by
  have HI := Lib.hid IH
  clear IH
  have HQ := Lib.hid (fun W b h => one_conv b (48 + d) W h)
  have hz : ((48 + d : Nat) : Int) = 48 + (d : Int) := by omega
  rw [hz] at HQ
  have hw := wrap_u8 (48 + d) (by omega)
  rw [hz] at hw
  clear hz
  have we : IntKind.i64.wrap (e : Int) = e := by simp [IntKind.wrap, IntKind.bits, IntKind.signed]; omega
  have wd : IntKind.i64.wrap (48 + (d : Int)) = 48 + (d : Int) := by simp [IntKind.wrap, IntKind.bits, IntKind.signed]; omega
  go_enter Tryz.func14, Tryz.ntmps14
  go_wp2_with fail
  have q2 := fun (W : World) => HQ.out (W.alloc (.cells #[.int .u8 (48 + (d : Int))] 5)) W.heap.size (by simp)
  have q3 := HQ.out ((w.alloc (.cells #[.int .u8 (48 + (d : Int))] 5)).drew) w.heap.size (cell_lem w _)
  have q5 := fun W : World => HQ.out ((W.alloc (.cells #[.int .u8 (48 + (d : Int))] 5)).drew) W.heap.size (by simp)
  go_region_held (fun w' => True) (trivial)
    (first | (go_at_call 14; refine (HI.out _).mono ?_; rintro e w2 ⟨⟨t, rfl, ht⟩, hbel⟩; have hts := txt_size ht; have hlt := lt_21 hts; have h1s := one_size (48 + (d : Int)); have hc2 := (hbel.cell (p := ⟨w.heap.size, 0, none⟩) (lt_lem w _)).trans (cell_lem w _); have hcv := HQ.out w2 w.heap.size hc2) | (go_at_call 14; refine (HI.out _).mono ?_; rintro e w2 ⟨⟨t, rfl, ht⟩, hbel⟩; have hts := txt_size ht; have hlt := lt_21 hts; have h1s := one_size (48 + (d : Int))))
  all_goals (go_wp2_with fail; go_ret; refine ⟨⟨t, rfl, ht⟩, ?_⟩; first
    | exact ((Below.refl w.heap.size w).drew.trans hbel).alloc hbel.size _
    | exact (((Below.refl w.heap.size w).alloc (Nat.le_refl _) _).drew).trans (hbel.mono (by simp)))
theorem itoaN_pos (n : Nat) (h : 10 ≤ n) (hn : n < 10 ^ 20) : itoaN (n : Int) = itoaN ((n / 10 : Nat) : Int) ++ [48 + n % 10] := by
  unfold itoaN
  rw [if_neg (by omega), if_neg (by omega), Int.toNat_natCast, Int.toNat_natCast, dd_step n hn, if_neg (by omega), List.map_append]
  rfl
theorem itoaN_neg (m : Nat) (h : 10 ≤ m) (hn : m < 10 ^ 20) : itoaN (-(m : Int)) = itoaN (-((m / 10 : Nat) : Int)) ++ [48 + m % 10] := by
  unfold itoaN
  rw [if_pos (by omega), if_pos (by omega), show (-(m : Int)).natAbs = m by omega, show (-((m / 10 : Nat) : Int)).natAbs = m / 10 by omega, dd_step m hn, if_neg (by omega), List.map_append]
  rfl
set_option maxRecDepth 100000 in
theorem decN0 (m : Nat) (h0 : 0 < m) (hm : m < 10) (w : World) : Calls Tryz.prog 14 #[.int .i64 (-(m : Int))] w fun e w' => (∃ t : ByteArray, e = .returned (.string t) ∧ bsN t = itoaN (-(m : Int))) ∧ Below w.heap.size w w' := by
  have q := fun W h => one_conv w.heap.size (48 + m) W h
  have hz : ((48 + m : Nat) : Int) = 48 + (m : Int) := by omega
  rw [hz] at q
  have hw := wrap_u8 (48 + m) (by omega)
  rw [hz] at hw
  have e1 : (48 : Int) - -(m : Int) = 48 + (m : Int) := by omega
  have h1s := one_size (48 + (m : Int))
  go_enter Tryz.func14, Tryz.ntmps14
  go_wp2_with fail
  go_ret
  refine ⟨⟨_, rfl, ?_⟩, (Below.refl _ _).alloc (Nat.le_refl _) _⟩
  rw [← hz, bsN_app, one_str _ (by omega)]
  unfold itoaN
  rw [if_pos (by omega), show (-(m : Int)).natAbs = m by omega, dd_step m (by omega), if_pos hm]
  rfl
set_option maxHeartbeats 2000000 in
set_option maxRecDepth 100000 in
theorem decNS (n e d : Nat) (hn : 10 ≤ n) (hN : n ≤ 9223372036854775808) (hd : d < 10) (he : e ≤ 922337203685477580) (hq : (-(n : Int)).tdiv 10 = -(e : Int)) (hr : (-(n : Int)).tmod 10 = -(d : Int)) (IH : ∀ w, Calls Tryz.prog 14 #[.int .i64 (-(e : Int))] w fun e2 w' => (∃ t : ByteArray, e2 = .returned (.string t) ∧ bsN t = itoaN (-(e : Int))) ∧ Below w.heap.size w w') (w : World) :
    Calls Tryz.prog 14 #[.int .i64 (-(n : Int))] w fun e2 w' => (∃ t : ByteArray, e2 = .returned (.string (t ++ strOfNums [48 + (d : Int)])) ∧ bsN t = itoaN (-(e : Int))) ∧ Below w.heap.size w w' := by
  have HI := Lib.hid IH
  clear IH
  have q := fun W h => one_conv w.heap.size (48 + d) W h
  have hz : ((48 + d : Nat) : Int) = 48 + (d : Int) := by omega
  rw [hz] at q
  have hw := wrap_u8 (48 + d) (by omega)
  rw [hz] at hw
  have e1 : (48 : Int) - -(d : Int) = 48 + (d : Int) := by omega
  have we : IntKind.i64.wrap (-(e : Int)) = -(e : Int) := by simp [IntKind.wrap, IntKind.bits, IntKind.signed]; omega
  have wd : IntKind.i64.wrap (48 + (d : Int)) = 48 + (d : Int) := by simp [IntKind.wrap, IntKind.bits, IntKind.signed]; omega
  have h1s := one_size (48 + (d : Int))
  go_enter Tryz.func14, Tryz.ntmps14
  go_wp2_with fail
  refine (HI.out _).mono ?_
  rintro e2 w2 ⟨⟨t, rfl, ht⟩, hbel⟩
  have hts := txt_size ht
  have HB := Lib.hid (((Below.refl w.heap.size w).alloc (Nat.le_refl _) _).trans (hbel.mono (by simp)))
  clear hbel
  go_wp2_with fail
  go_ret
  exact ⟨⟨t, rfl, ht⟩, HB.out⟩
theorem dec_any : ∀ (m : Nat) (n : Int) (w : World), n.natAbs = m → -9223372036854775808 ≤ n → n ≤ 9223372036854775807 → Calls Tryz.prog 14 #[.int .i64 n] w fun e w' => (∃ t : ByteArray, e = .returned (.string t) ∧ bsN t = itoaN n) ∧ Below w.heap.size w w' := by
  intro m
  induction m using Nat.strongRecOn with
  | ind m IH =>
    intro n w hm h0 h1
    by_cases hn : 0 ≤ n
    · obtain ⟨k, rfl⟩ : ∃ k : Nat, n = k := ⟨n.toNat, by omega⟩
      by_cases hk : k < 10
      · exact dec0 k hk w
      · refine (decS k (k / 10) (k % 10) (by omega) (by omega) (by omega) (by omega) (q10 k) (r10 k) (fun W => IH (k / 10) (by omega) _ W (by omega) (by omega) (by omega)) w).mono ?_
        rintro e w' ⟨⟨t, rfl, ht⟩, hb⟩
        refine ⟨⟨_, rfl, ?_⟩, hb⟩
        rw [bsN_app, ht, itoaN_pos k (by omega) (by omega), show (48 + ((k % 10 : Nat) : Int)) = ((48 + k % 10 : Nat) : Int) by omega, one_str _ (by omega)]
    · obtain ⟨k, rfl⟩ : ∃ k : Nat, n = -(k : Int) := ⟨n.natAbs, by omega⟩
      by_cases hk : k < 10
      · exact decN0 k (by omega) hk w
      · refine (decNS k (k / 10) (k % 10) (by omega) (by omega) (by omega) (by omega) (by rw [Int.neg_tdiv, q10]) (by rw [Int.neg_tmod, r10]) (fun W => IH (k / 10) (by omega) _ W (by omega) (by omega) (by omega)) w).mono ?_
        rintro e w' ⟨⟨t, rfl, ht⟩, hb⟩
        refine ⟨⟨_, rfl, ?_⟩, hb⟩
        rw [bsN_app, ht, itoaN_neg k (by omega) (by omega), show (48 + ((k % 10 : Nat) : Int)) = ((48 + k % 10 : Nat) : Int) by omega, one_str _ (by omega)]

end Go.Proofs.YtdfbokmjipdolaaGreatDoor
