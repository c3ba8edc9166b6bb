/- The light parser's newDecimal. -/
import Derived.Test.YtdfbokmjipdolaaGreatDoorQ9
import Derived.Outline
set_option linter.unusedVariables false
set_option linter.unusedSimpArgs false
namespace Go.Proofs.YtdfbokmjipdolaaGreatDoor
open Go.RowKit

set_option maxRecDepth 100000 in
set_option maxHeartbeats 1000000 in
theorem trim_zero (w : World) (B b g cap : Nat) (dp : Int) (h : LD w B b g cap [0] dp) :
    Calls Tryz.prog 86 #[.pointer (some ⟨b, 0, none⟩)] w fun e w' => e = .returned (.pointer (some ⟨b, 0, none⟩)) ∧ Fr b w w' := by
  have H := Lib.hid h
  clear h
  go_enter Tryz.func86, Tryz.ntmps86
  go_wp2_with fail
  go_loopg [] 1 (fun gm wx => ((gm = 1 ∧ LD wx B b g cap [0] dp) ∨ (gm = 0 ∧ LD wx B b g cap [] dp)) ∧ Fr b w wx)
  case atStart => exact ⟨Or.inl ⟨rfl, H.out⟩, Fr.refl _ _⟩
  case round =>
    obtain ⟨hc, hB⟩ := hrel
    have HB := Lib.hid hB
    clear hB
    rcases hc with ⟨rfl, hE⟩ | ⟨rfl, hE⟩
    · have c0 := hE.c0
      have cm := hE.cg 0 (by decide)
      have f0 := hE.f 0
      have hcap := hE.capMax
      have HE := Lib.hid hE
      rw [show ([0] : List Nat).length = 1 from rfl] at c0 hcap
      rw [show ([0] : List Nat).getD 0 0 = 0 from rfl] at cm
      clear hE
      go_wp2_with fail
      go_quiet (fail)
      go_wp2_with fail
      obtain ⟨W, hW⟩ : ∃ W, W = wr.drewN nq := ⟨_, rfl⟩
      rw [← hW]
      have c0' : W.cell? ⟨b, 0, none⟩ = some (.slice (some ⟨g, 0, none⟩) 1 cap) := by rw [hW]; exact c0
      have f0' : W.frozen? ⟨b, 0, none⟩ = false := by rw [hW]; exact f0
      have HW := Lib.hid hW
      clear hW c0 f0 cm
      go_region
      all_goals
        go_wp2_with fail
        go_roundg 0
        case measure => decide
        case rel =>
          refine ⟨Or.inr ⟨rfl, ?_⟩, ?_⟩
          · rw [HW.out]; exact (LD.pop (F := []) (x := 0) (HE.out.drewN nq)).drewN 1
          · rw [HW.out]; exact Fr.setB (Fr.dr HB.out nq) _ 1
    · have c0 := hE.c0
      have f1 := hE.f 1
      have c1 := hE.c1
      have hcap := hE.capMax
      rw [show ([] : List Nat).length = 0 from rfl] at c0 hcap
      clear hE
      go_wp2_with fail
      go_quiet (fail)
      go_wp2_with fail
      go_ret
      exact ⟨rfl, Fr.set (Fr.dr HB.out _) _ _⟩
theorem own_form {w : World} {n0 n : Nat} {v : Value} {xs : List Value} (h : w.ownsRow n0 5 1 v n xs) (hn : 0 < n) : ∃ g cap, v = .slice (some ⟨g, 0, none⟩) n cap := by
  rcases h.2 with ⟨_, h0⟩ | ⟨g, cap, cur, hv, _⟩
  · omega
  · exact ⟨g, cap, hv⟩
/-- a light decimal that is being made -/
structure LN (w : World) (n0 b : Nat) (O : List Nat) (dp : Int) (v : Value) : Prop where
  blk : w.heap[b]? = some (.cells #[v, .int .i64 dp] 157 (0, 0))
  own : w.ownsRow n0 5 1 v O.length (u8s O)
  hb : b < n0
section
variable {w wr w3 : World} {n0 b : Nat} {O : List Nat} {dp : Int} {v v' : Value} {x : Nat} {o : Obj}
theorem LN.c0 (h : LN w n0 b O dp v) : w.cell? ⟨b, 0, none⟩ = some v := by rw [cell_of_row w b 0 _ 157 (0, 0) h.blk]; rfl
theorem LN.c1 (h : LN w n0 b O dp v) : w.cell? ⟨b, 1, none⟩ = some (.int .i64 dp) := by rw [cell_of_row w b 1 _ 157 (0, 0) h.blk]; rfl
theorem LN.f (h : LN w n0 b O dp v) (j : Nat) : w.frozen? ⟨b, j, none⟩ = false := frozen_of_row w b j _ 157 h.blk
theorem LN.lt (h : LN w n0 b O dp v) : b < w.heap.size := (Array.getElem?_eq_some_iff.1 h.blk).1
theorem LN.mid (h : LN wr n0 b O dp v) (hg : (wr.alloc o).grownBy w3 v.ownBlock) : w3.heap[b]? = some (.cells #[v, .int .i64 dp] 157 (0, 0)) := by
  have hlt := h.lt
  have hbn := h.hb
  rw [hg.block b (by simp; omega) (fun e => by have := (h.own.lt b e.symm).1; omega), Below.heap_alloc _ _ _ hlt]
  exact h.blk
theorem LN.push (h : LN wr n0 b O dp v) (hown : w3.ownsRow n0 5 1 v' (O.length + 1) (u8s O ++ [.int .u8 (x : Int)])) (hg : (wr.alloc o).grownBy w3 v.ownBlock) : LN (w3.setCell ⟨b, 0, none⟩ v') n0 b (O ++ [x]) dp v' := by
  refine ⟨?_, ?_, h.hb⟩
  · rw [heap_setCell_same w3 b 0 _ 157 v' (h.mid hg)]; rfl
  · have h2 := hown.kept (w' := w3.setCell ⟨b, 0, none⟩ v') (row := some b) ⟨rfl, rfl, rfl, by simp, fun k _ hk => heap_setCell_other w3 ⟨b, 0, none⟩ k _ (fun e => hk (by simp [e]))⟩ (Or.inr (fun e => by have := (hown.lt b e).1; have := h.hb; omega))
    simpa [u8s] using h2
theorem LN.setDp (h : LN w n0 b O dp v) (y : Int) : LN (w.setCell ⟨b, 1, none⟩ (.int .i64 y)) n0 b O y v := by
  refine ⟨?_, ?_, h.hb⟩
  · rw [heap_setCell_same w b 1 _ 157 _ h.blk]; rfl
  · exact h.own.kept (row := some b) ⟨rfl, rfl, rfl, by simp, fun k _ hk => heap_setCell_other w ⟨b, 1, none⟩ k _ (fun e => hk (by simp [e]))⟩ (Or.inr (fun e => by have := (h.own.lt b e).1; have := h.hb; omega))
theorem LN.drewN (h : LN w n0 b O dp v) (n : Nat) : LN (w.drewN n) n0 b O dp v := ⟨h.blk, h.own, h.hb⟩
theorem LN.ld (h : LN w n0 b O dp v) (hO : O ≠ []) : ∃ g cap, v = .slice (some ⟨g, 0, none⟩) O.length cap ∧ LD w b b g cap O dp := by
  have hpos : 0 < O.length := List.length_pos_iff.2 hO
  rcases h.own.2 with ⟨_, h0⟩ | ⟨g, cap, cur, hv, hb, hg⟩
  · omega
  · refine ⟨g, cap, hv, by rw [← hv]; exact h.blk, ⟨h.own.1, Or.inr ⟨g, cap, cur, rfl, by have := h.hb; omega, hg⟩⟩, Nat.le_refl _⟩
theorem LN.below (h : LN w n0 b O dp v) {w0 : World} (hB : Below b w0 w) (j : Nat) (y : Value) : Below b w0 (w.setCell ⟨b, j, none⟩ y) := hB.setCell (p := ⟨b, j, none⟩) (Nat.le_refl _) y
end
/-- newDecimal's answer -/
def NDPost (m : Nat) (w : World) (e : Ending) (w' : World) : Prop := Below w.heap.size w w' ∧ w.heap.size < w'.heap.size ∧ e = .returned (.pointer (some ⟨w.heap.size, 0, none⟩)) ∧ (0 < m → ∃ g cap, LD w' w.heap.size w.heap.size g cap (ltrim (dd m)) ((dd m).length : Int))

set_option maxRecDepth 100000 in
set_option maxHeartbeats 2000000 in
theorem newDec_any (m : Nat) (w : World) (hm : m < 18446744073709551616) : Calls Tryz.prog 87 #[.int .u64 m] w (NDPost m w) := by
  obtain ⟨i0, hi, hz0, hz1, hz2⟩ := info_parts info5
  obtain ⟨b, hb⟩ : ∃ b, b = w.heap.size := ⟨_, rfl⟩
  have Hb := Lib.hid hb
  clear hb
  go_enter Tryz.func87, Tryz.ntmps87
  go_wp2_with fail
  refine (fmtUint_any m _ hm).mono ?_
  rintro e w1 ⟨t, rfl, ht, hB1⟩
  have Ht := Lib.hid ht
  have HB1 := Lib.hid hB1
  clear ht hB1
  have hcv := Lib.run_convert_string_bytes w1 9 73 5 t Tryz.underlying9 Tryz.underlying73 Tryz.underlying5
  have htl : t.size = (dd m).length := by
    have := congrArg List.length Ht.out
    rw [bsN_len, List.length_map] at this
    exact this
  have hL20 := ddF_len 19 m
  have htl20 : t.size ≤ 20 := by rw [htl]; exact hL20.1
  have Htl := Lib.hid htl
  have hs1 : w.heap.size < w1.heap.size := by have := HB1.out.size; simp at this; omega
  have hbk : w1.heap[w.heap.size]? = some (.cells #[.slice none 0 0, .int .i64 0] 157 (0, 0)) := by
    rw [HB1.out.block _ (by simp)]; exact heap_alloc_new w _
  have hBw : Below w.heap.size w (Lib.bytesWorld w1 5 t) := by
    have h1 : Below w.heap.size w w1 := ((Below.refl _ _).alloc (Nat.le_refl _) _).trans (HB1.out.mono (by simp))
    exact ⟨h1.os, h1.tape, h1.output, by rw [Lib.bytesWorld_size]; omega, fun k hk => by rw [Lib.bytesWorld_at_old w1 5 t k (by omega)]; exact h1.block k hk⟩
  have hLN : LN (Lib.bytesWorld w1 5 t) (w1.heap.size + 1) w.heap.size [] 0 (.slice none 0 0) :=
    ⟨by rw [Lib.bytesWorld_at_old w1 5 t _ hs1]; exact hbk, World.ownsRow_nil _ _ _ _, by omega⟩
  have hcell : ∀ j, j < t.size → (Lib.bytesWorld w1 5 t).cell? ⟨w1.heap.size, j, none⟩ = some (.int .u8 (48 + ((dd m).getD j 0 : Nat) : Int)) := by
    intro j hj
    rw [Lib.bytesWorld_cell w1 5 t j hj]
    congr 2
    have h1 := congrArg (fun l => l[j]?.getD 0) Ht.out
    rw [bsN_get hj] at h1
    rw [List.getElem?_map, List.getElem?_eq_getElem (by rw [← htl]; exact hj)] at h1
    rw [List.getD_eq_getElem?_getD, List.getElem?_eq_getElem (by simpa using hj), List.getD_eq_getElem?_getD, List.getElem?_eq_getElem (by rw [← htl]; exact hj)]
    simp only [Option.map_some, Option.getD_some] at h1 ⊢
    have h2 : (t.data.toList[j]'(by simpa using hj)).toNat = t[j].toNat := rfl
    rw [h2, h1]
    omega
  obtain ⟨R, hR⟩ : ∃ R, R = w1.heap.size := ⟨_, rfl⟩
  obtain ⟨W2, hW2⟩ : ∃ W2, W2 = Lib.bytesWorld w1 5 t := ⟨_, rfl⟩
  obtain ⟨cp, hcp⟩ : ∃ cp, cp = grownCap w1 t.size 0 5 := ⟨_, rfl⟩
  have hcp2 : t.size ≤ cp ∧ cp ≤ 9223372036854775807 := by
    rw [hcp]
    refine ⟨grownCap_ge _ _ _ _, ?_⟩
    have := grownCap_le_maxLen w1 t.size 0 5 (by unfold maxLen; omega)
    unfold maxLen at this
    exact this
  have hsz2 : W2.heap.size = R + 1 := by rw [hW2, hR]; exact Lib.bytesWorld_size w1 5 t
  rw [← hR, ← hW2, ← hcp] at hcv
  rw [← hW2] at hBw
  rw [← hW2, ← hR] at hLN hcell
  rw [← hR] at hs1
  have HLN := Lib.hid hLN
  have HBw := Lib.hid hBw
  have Hcell := Lib.hid hcell
  have Hsz2 := Lib.hid hsz2
  clear hLN hBw hcell hR hW2 hcp hsz2 hbk htl hL20
  go_upto_block 0 with fail
  go_cut [10] (fun s10 wx => s10 = .int .i64 t.size ∧ ∃ v, Hid (LN wx (R + 1) w.heap.size (dd m) 0 v) ∧ Hid (Below w.heap.size w wx) ∧ R + 1 ≤ wx.heap.size)
  case first =>
    go_wp2_with fail
    go_loopg [10] t.size (fun gm s10 wx => ∃ (k : Nat) (v : Value), gm = t.size - k ∧ s10 = .int .i64 k ∧ k ≤ t.size ∧ Hid (LN wx (R + 1) w.heap.size ((dd m).take k) 0 v) ∧ Hid (Below w.heap.size w wx) ∧ Hid (wx.heap[R]? = W2.heap[R]?) ∧ R + 1 ≤ wx.heap.size)
    case atStart => exact ⟨0, .slice none 0 0, rfl, rfl, Nat.zero_le _, HLN, HBw, Lib.hid rfl, by have := Hsz2.out; omega⟩
    case round =>
      obtain ⟨k, v, hg, rfl, hk, hN, hB, hR, hsz⟩ := hrel
      have Hg := Lib.hid hg
      clear hg
      by_cases hlt : k < t.size
      · as_aux_lemma =>
          have c0 := hN.out.c0
          obtain ⟨x, hx⟩ : ∃ x, x = (dd m).getD k 0 := ⟨_, rfl⟩
          have bx : x < 10 := by rw [hx]; exact getD_lt (ddF_dig 19 m) k
          have ex : (48 : Int) + x - 48 = x := by omega
          have cR : wr.cell? ⟨R, k, none⟩ = some (.int .u8 (48 + (x : Int))) := by
            rw [World.cell?_of_block (w := W2) (a := ⟨R, k, none⟩) hR.out, hx]
            exact Hcell.out k hlt
          have hkd : k < (dd m).length := by rw [← Htl.out]; exact hlt
          have htk : (dd m).take (k + 1) = (dd m).take k ++ [x] := by
            rw [List.take_succ_eq_append_getElem hkd, hx, List.getD_eq_getElem?_getD, List.getElem?_eq_getElem hkd, Option.getD_some]
          have hlk : ((dd m).take k).length = k := by rw [List.length_take]; omega
          obtain ⟨O, hO⟩ : ∃ O, O = (dd m).take k := ⟨_, rfl⟩
          rw [← hO] at hN htk hlk
          have Htk := Lib.hid htk
          have Hx := Lib.hid hx
          have hlk20 : O.length ≤ 20 := by omega
          clear htk hx hkd hlk hO
          go_wp2_with (at_builtin; refine wpList_append_own _ rfl _ _ 73 rfl (R + 1) 5 i0 (.int .u8 0) 1 1 Tryz.underlying73 hi hz0 hz1 hz2 rfl (by decide) _ _ _ rfl (hN.out.own.alloc _) ⟨wr.heap.size, 0, none⟩ 1 1 [.int .u8 (x : Int)] rfl rfl (cell_one_new _ _ _) (fun x hx => by simp at hx; subst hx; rfl) (by unfold maxLen; omega) (by omega) (by simp; omega) ?_; intro v' w3 hown' hgrow3 hnil3; obtain ⟨g3, cap3, hv3⟩ := own_form hown' (by omega); subst hv3; have HP := Lib.hid (And.intro hown' hgrow3); clear hown' hgrow3 hnil3; have h3 := hN.out.mid HP.out.2; have c03 : w3.cell? ⟨w.heap.size, 0, none⟩ = some v := by {rw [cell_of_row w3 w.heap.size 0 _ 157 (0, 0) h3]; rfl}; have f03 : w3.frozen? ⟨w.heap.size, 0, none⟩ = false := frozen_of_row w3 w.heap.size 0 _ 157 h3; clear h3)
          go_roundg (t.size - (k + 1))
          case measure => have := Hg.out; omega
          case rel =>
            refine ⟨k + 1, .slice (some ⟨g3, 0, none⟩) (O.length + 1) cap3, rfl, by go_num, by omega, Lib.hid ?_, Lib.hid ?_, Lib.hid ?_, ?_⟩
            · rw [Htk.out]; exact hN.out.push HP.out.1 HP.out.2
            · exact (Below.grown (hB.out.alloc (by omega) _) HP.out.2 (by simp; omega) (fun j hj => by have := (hN.out.own.lt j hj).1; omega)).setCell (p := ⟨w.heap.size, 0, none⟩) (Nat.le_refl _) _
            · rw [heap_setCell_other w3 ⟨w.heap.size, 0, none⟩ R _ (by simp; omega), HP.out.2.block R (by simp; omega) (fun e => by have := (hN.out.own.lt R e.symm).1; omega), Below.heap_alloc _ _ _ (by omega)]
              exact hR.out
            · have := HP.out.2.size
              simp at this ⊢
              omega
      · as_aux_lemma =>
          have e : k = t.size := by omega
          subst e
          have hfull : (dd m).take t.size = dd m := by rw [Htl.out, List.take_length]
          have hN2 := hN.out
          rw [hfull] at hN2
          have HN2 := Lib.hid hN2
          clear hN2 hfull hlt
          go_wp2_with fail
          go_meet
          exact ⟨rfl, v, HN2, hB, hsz⟩
  case rest =>
    obtain ⟨rfl, v, hN, hB, hsz⟩ := hcut
    have hne : dd m ≠ [] := by
      intro h
      have := (ddF_len 19 m).2
      have h2 : (dd m).length = (ddF 19 m).length := rfl
      rw [h, List.length_nil] at h2
      omega
    obtain ⟨g, cap, rfl, hLD⟩ := hN.out.ld hne
    have c0 := hLD.c0
    rw [← Htl.out] at c0
    have hcap := hLD.capMax
    rw [← Htl.out] at hcap
    have f1 := hLD.f 1
    have c1 := hLD.c1
    have hLD2 := hLD.setDp ((t.size : Nat) : Int)
    have hB2 : Below w.heap.size w (wc.setCell ⟨w.heap.size, 1, none⟩ (.int .i64 (t.size : Int))) := hB.out.setCell (p := ⟨w.heap.size, 1, none⟩) (Nat.le_refl _) _
    have HB2 := Lib.hid hB2
    have hszw : w.heap.size < wc.heap.size := by omega
    by_cases hm0 : 0 < m
    · skip
      have Hc := Lib.hid (ltrimW_any _ w.heap.size w.heap.size g cap (dd m) _ hLD2 (ddF_lead 19 m (by omega) hm0) hne (by rw [← Htl.out]; omega))
      clear hLD hLD2 hne hB2
      go_wp2_with fail
      refine Hc.out.mono ?_
      rintro e w' ⟨rfl, hT, hf⟩
      have HT := Lib.hid hT
      have Hf := Lib.hid hf
      clear hT hf
      go_wp2_with fail
      go_ret
      refine ⟨HB2.out.trans (Hf.out.below (Nat.le_refl _) (by simp; omega)), ?_, rfl, fun _ => ⟨g, cap, ?_⟩⟩
      · have := Hf.out.size
        simp at this
        omega
      · have := HT.out; rw [Htl.out] at this; exact this
    · skip
      have e0 : m = 0 := by omega
      subst e0
      have ed : dd 0 = [0] := rfl
      rw [ed] at hLD2
      have Hc := Lib.hid (trim_zero _ w.heap.size w.heap.size g cap _ hLD2)
      clear hLD hLD2 hne hB2
      go_wp2_with fail
      refine Hc.out.mono ?_
      rintro e w' ⟨rfl, hf⟩
      have Hf := Lib.hid hf
      clear hf
      go_wp2_with fail
      go_ret
      refine ⟨HB2.out.trans (Hf.out.below (Nat.le_refl _) (by simp; omega)), ?_, rfl, fun h => absurd h (by decide)⟩
      have := Hf.out.size
      simp at this
      omega
end Go.Proofs.YtdfbokmjipdolaaGreatDoor
