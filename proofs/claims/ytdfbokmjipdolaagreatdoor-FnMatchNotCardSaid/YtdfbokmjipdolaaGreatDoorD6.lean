/- The light decimal's half. -/
import Derived.Test.YtdfbokmjipdolaaGreatDoorQ6
import Derived.Test.YtdfbokmjipdolaaGreatDoorC8
import Derived.Outline
import Derived.Maps.AppendAt
set_option linter.unusedVariables false
set_option linter.unusedSimpArgs false
namespace Go.Proofs.YtdfbokmjipdolaaGreatDoor
open Go.RowKit

theorem info5 : (Tryz.prog.info? 5).map (fun i => (i.zero, i.size, i.bytes)) = some (some (.int .u8 0), 1, 1) := by kernel_rfl
theorem hN_le_mono {D : List Nat} (hd : LOk D) : ∀ (j i : Nat), hN D i ≤ hN D (i + j)
  | 0, i => Nat.le_refl _
  | j + 1, i => Nat.le_trans (hN_le_mono hd j i) (Nat.le_of_lt (hN_mono hd (i + j)))
theorem hN_below {D : List Nat} (hd : LOk D) {k : Nat} (hk : k ≤ 59) {i : Nat} (h : i < hI k D) : hN D i < 2 ^ k := by
  obtain ⟨h1, _, h3, _⟩ := hI_spec hd hk
  have := hN_le_mono hd (hI k D - 1 - i) i
  rw [show i + (hI k D - 1 - i) = hI k D - 1 by omega] at this
  omega
theorem hN_pos {D : List Nat} (hd : LOk D) {i : Nat} (h : 0 < i) : 0 < hN D i := by
  obtain ⟨j, rfl⟩ : ∃ j, i = j + 1 := ⟨i - 1, by omega⟩
  have := hN_mono hd j
  omega
theorem drop_head (D : List Nat) (i : Nat) : (D.drop i).headD 0 = D.getD i 0 ∧ (D.drop i).tail = D.drop (i + 1) := by
  refine ⟨?_, by rw [List.tail_drop]⟩
  rw [List.headD_eq_head?_getD, List.head?_drop, List.getD_eq_getElem?_getD]
section
variable {w wr w3 : World} {B b g cap n0 m : Nat} {D : List Nat} {dp : Int} {v : Value} {xs : List Value} {o : Obj}
theorem LD.app (hL : LD wr B b g cap D dp) (hO : wr.ownsRow n0 5 1 v m xs) (hbn : b < n0) (hgn : g < n0) (hg : (wr.alloc o).grownBy w3 v.ownBlock) : LD w3 B b g cap D dp := by
  have h1 : LD (wr.alloc o) B b g cap D dp := hL.below ((Below.refl wr.heap.size wr).alloc (Nat.le_refl _) o) hL.lt hL.glt.1
  refine h1.grown hg ?_ ?_
  · intro h; have := (hO.lt b h).1; omega
  · intro h; have := (hO.lt g h).1; omega
theorem Fr.app (h : Fr b w wr) (hO : wr.ownsRow w.heap.size 5 1 v m xs) (hg : (wr.alloc o).grownBy w3 v.ownBlock) : Fr b w w3 := by
  unfold Fr at *
  have hs := hg.size
  simp at hs
  refine ⟨hg.os.trans h.os, hg.tape.trans h.tape, hg.output.trans h.output, by have := h.size; omega, fun k hk hb => ?_⟩
  have hk2 : k < wr.heap.size := Nat.lt_of_lt_of_le hk h.size
  rw [hg.block k (by simp; omega) (fun e => by have := (hO.lt k e.symm).1; omega), Below.heap_alloc wr o k hk2]
  exact h.block k hk hb
end
theorem LD.set {w : World} {B b g cap g2 cap2 n0 : Nat} {D E : List Nat} {dp : Int} (h : LD w B b g cap D dp) (hO : w.ownsRow n0 5 1 (.slice (some ⟨g2, 0, none⟩) E.length cap2) E.length (u8s E)) (hB : B ≤ n0) (hbn : b < n0) :
    LD (w.setCell ⟨b, 0, none⟩ (.slice (some ⟨g2, 0, none⟩) E.length cap2)) B b g2 cap2 E dp := by
  have hg := hO.lt g2 rfl
  refine ⟨by rw [h.turn 0 _ (by decide)]; rfl, ?_, h.hb⟩
  have h2 := hO.kept (w' := w.setCell ⟨b, 0, none⟩ (.slice (some ⟨g2, 0, none⟩) E.length cap2)) (row := some b) ⟨rfl, rfl, rfl, by simp, fun k _ hk => heap_setCell_other w ⟨b, 0, none⟩ k _ (fun e => hk (by simp [e]))⟩ (Or.inr (by
    show some g2 ≠ some b
    simp; omega))
  refine ⟨h2.1, ?_⟩
  rcases h2.2 with ⟨h3, _⟩ | ⟨g', cap', cur, h3, h4, h5⟩
  · cases h3
  · exact Or.inr ⟨g', cap', cur, h3, by omega, h5⟩
def HalfPost (w : World) (B b : Nat) (D' : List Nat) (dp' : Int) (e : Ending) (w' : World) : Prop := e = .returned (.tuple #[]) ∧ (∃ g' cap', LD w' B b g' cap' D' dp') ∧ Fr b w w'

set_option maxRecDepth 100000 in
set_option maxHeartbeats 4000000 in
theorem halfW_any (w : World) (B b g cap : Nat) (D : List Nat) (dp : Int) (k : Nat) (h : LD w B b g cap D dp) (hd : LOk D) (hk0 : 1 ≤ k) (hk : k ≤ 59) (hlen : D.length ≤ 900000) (hdp : -1000000 ≤ dp) (hdp' : dp ≤ 1000000) :
    Calls Tryz.prog 90 #[.pointer (some ⟨b, 0, none⟩), .int .i64 k] w (HalfPost w B b (halfD k D) (halfP k D dp)) := by
  have H := Lib.hid h
  have c0 := h.c0
  have c1 := h.c1
  have f1 := h.f 1
  have f0 := h.f 0
  have hcap := h.capMax
  have hDl : 1 ≤ D.length := List.length_pos_iff.2 hd.ne
  obtain ⟨n, hn⟩ : ∃ n, n = D.length := ⟨_, rfl⟩
  rw [← hn] at c0 hcap hlen hDl
  have Hn := Lib.hid hn
  obtain ⟨i1, i2, i3, i4⟩ := hI_spec hd hk
  obtain ⟨I, hI'⟩ : ∃ I, I = hI k D := ⟨_, rfl⟩
  rw [← hI'] at i1 i2 i3 i4
  have HI := Lib.hid hI'
  obtain ⟨Z, hZ⟩ : ∃ Z : Nat, Z = 2 ^ k := ⟨_, rfl⟩
  have bZ : Z ≤ 576460752303423488 := by rw [hZ]; exact Nat.pow_le_pow_right (n := 2) (by decide) hk
  have bZ0 : 0 < Z := by rw [hZ]; exact Nat.pow_pos (by decide)
  have eZ : (2 : Int) ^ k = Z := by rw [hZ]; push_cast; rfl
  have HZ := Lib.hid hZ
  have Hd := Lib.hid hd
  have HPI := Lib.hid (show halfP k D dp = dp - I + 1 by unfold halfP; rw [hI'])
  have Hi4 := Lib.hid i4
  clear h hn hI' hZ hd i3 i4
  go_enter Tryz.func90, Tryz.ntmps90
  go_upto_block 0 with fail
  go_cut [4, 5] (fun s4 s5 wx => s4 = .int .u64 (hN D I : Nat) ∧ s5 = .int .i64 I ∧ wx = w)
  case first =>
    go_wp2_with fail
    go_loopg [4, 5] I (fun gm s4 s5 wx => ∃ i N : Nat, gm = I - i ∧ i ≤ I ∧ s4 = .int .u64 N ∧ s5 = .int .i64 i ∧ Hid (N = hN D i) ∧ wx = w)
    case atStart => exact ⟨0, 0, rfl, Nat.zero_le _, rfl, rfl, Lib.hid rfl, rfl⟩
    case round =>
      obtain ⟨i, N, hg, hi, rfl, rfl, HN, rfl⟩ := hrel
      have Hg := Lib.hid hg
      clear hg
      by_cases hlt : i < I
      · have hb := hN_below Hd.out hk (show i < hI k D by rw [← HI.out]; exact hlt)
        rw [← HZ.out, ← HN.out] at hb
        have q : ((N : Int) / (Z : Int) == 0) = true := by
          rw [beq_iff_eq]
          have : N / Z = 0 := Nat.div_eq_of_lt hb
          omega
        by_cases hin : i < n
        · as_aux_lemma =>
            have cg := H.out.cg i (by rw [← Hn.out]; exact hin)
            obtain ⟨v, hv⟩ : ∃ v, v = D.getD i 0 := ⟨_, rfl⟩
            have bv : v < 10 := by rw [hv]; exact getD_lt Hd.out.dig i
            rw [← hv] at cg
            have Hv := Lib.hid hv
            clear hv
            go_wp2_with fail
            go_roundg (I - (i + 1))
            case measure => have := Hg.out; omega
            case rel => exact ⟨i + 1, N * 10 + v, rfl, by omega, by go_num, by go_num, Lib.hid (by rw [hN, ← HN.out, ← Hv.out]), rfl⟩
        · as_aux_lemma =>
            have hpos : 0 < N := by rw [HN.out]; exact hN_pos Hd.out (by omega)
            have q2 : ((N : Int) == 0) = false := by rw [beq_eq_false_iff_ne]; omega
            have Hv := Lib.hid (show D.getD i 0 = 0 by rw [List.getD_eq_getElem?_getD, List.getElem?_eq_none (by rw [← Hn.out]; omega)]; rfl)
            go_wp2_with fail
            go_roundg (I - (i + 1))
            case measure => have := Hg.out; omega
            case rel => exact ⟨i + 1, N * 10, rfl, by omega, by go_num, by go_num, Lib.hid (by rw [hN, ← HN.out, Hv.out]; rfl), rfl⟩
      · as_aux_lemma =>
          have e : i = I := by omega
          subst e
          have h4 := Hi4.out
          rw [← HZ.out, ← HN.out] at h4
          have q : ((N : Int) / (Z : Int) == 0) = false := by
            rw [beq_eq_false_iff_ne]
            have : 0 < N / Z := Nat.div_pos h4 bZ0
            omega
          clear h4
          go_wp2_with fail
          go_meet
          exact ⟨by rw [HN.out], rfl, rfl⟩
  case rest =>
    obtain ⟨rfl, rfl, rfl⟩ := hcut
    obtain ⟨i0, hi, hz0, hz1, hz2⟩ := info_parts info5
    have hmask : ∀ c : Nat, c < 18446744073709551616 → bits BinOp.and IntKind.u64 (c : Int) ((Z : Int) - 1) = ((c % Z : Nat) : Int) := by
      intro c hc
      rw [HZ.out]
      exact and_mask c k hc (by omega)
    have HM := Lib.hid hmask
    have hS := hN_hI_lt Hd.out hk
    rw [← HI.out, ← HZ.out] at hS
    obtain ⟨N0, hN0⟩ : ∃ N0, N0 = hN D I := ⟨_, rfl⟩
    rw [← hN0] at hS ⊢
    have HN0 := Lib.hid hN0
    have hwsz : b < wc.heap.size ∧ g < wc.heap.size := ⟨H.out.lt, H.out.glt.1⟩
    have hbB := H.out.hb
    have hgB := H.out.glt.2
    clear hmask hN0
    go_upto_block 2 with fail
    go_cut [6] (fun s6 wx => ∃ v : Value, s6 = v ∧ LD wx B b g cap D (halfP k D dp) ∧ wx.ownsRow wc.heap.size 5 1 v (halfO k D).length (u8s (halfO k D)) ∧ Fr b wc wx ∧ wc.heap.size ≤ wx.heap.size)
    case first =>
      go_wp2_with fail
      go_loopg [4, 5, 6] ((D.drop I).length + k + 1) (fun gm s4 s5 s6 wx => ∃ (i c : Nat) (O : List Nat) (v : Value), s4 = .int .u64 c ∧ s5 = .int .i64 i ∧ s6 = v ∧ Hid (LD wx B b g cap D (halfP k D dp)) ∧ Hid (wx.ownsRow wc.heap.size 5 1 v O.length (u8s O)) ∧ Hid (Fr b wc wx) ∧ Hid (O ++ hOut k gm c (D.drop i) = halfO k D) ∧ Hid (hFin k gm c (D.drop i)) ∧ c < 10 * Z ∧ Hid (O.length + gm ≤ 900100) ∧ i ≤ 19 + O.length ∧ wc.heap.size ≤ wx.heap.size)
      case atStart =>
        refine ⟨I, N0, [], .slice none 0 0, rfl, rfl, rfl, Lib.hid ?_, Lib.hid (World.ownsRow_nil _ _ _ _), Lib.hid ((Fr.refl _ _).set 1 _), Lib.hid ?_, Lib.hid (hFin.start k _ _), hS, Lib.hid ?_, by omega, by simp⟩
        · have h2 := H.out.setDp (dp - ((I : Int) - 1))
          rw [show dp - ((I : Int) - 1) = halfP k D dp by rw [HPI.out]; omega] at h2 ⊢
          exact h2
        · rw [List.nil_append, HN0.out, HI.out]; rfl
        · rw [List.length_drop, List.length_nil]; have := Hn.out; omega
      case round =>
        obtain ⟨i, c, O, v, rfl, rfl, rfl, hL, hO, hB, hE, hF, hc, hlen2, hiO, hsz⟩ := hrel
        have bO : O.length ≤ 900100 := by have := hlen2.out; omega
        have c0 := hL.out.c0
        rw [← Hn.out] at c0
        obtain ⟨X, hX⟩ : ∃ X, X = c / Z := ⟨_, rfl⟩
        have eX : (c : Int) / Z = X := by rw [hX]; push_cast; rfl
        have bX : X < 10 := by rw [hX]; exact (Nat.div_lt_iff_lt_mul bZ0).2 hc
        obtain ⟨Y, hY⟩ : ∃ Y, Y = c % Z := ⟨_, rfl⟩
        have bY : Y < Z := by rw [hY]; exact Nat.mod_lt _ bZ0
        have hb2 : bits BinOp.and IntKind.u64 (c : Int) ((Z : Int) - 1) = (Y : Int) := by rw [hY]; exact HM.out c (by omega)
        have HX := Lib.hid hX
        have HY := Lib.hid hY
        clear hX hY
        by_cases hin : i < n
        · as_aux_lemma =>
            have hdne : D.drop i ≠ [] := by
              intro h
              have := congrArg List.length h
              rw [List.length_drop, List.length_nil] at this
              have := Hn.out; omega
            obtain ⟨f, rfl⟩ : ∃ f, gk = f + 1 := by
              cases gk with
              | zero => exact absurd hF.out.zero.1 hdne
              | succ f => exact ⟨f, rfl⟩
            have hne : ¬ (D.drop i = [] ∧ c = 0) := fun h => hdne h.1
            have hst := hOut_step k f c (D.drop i) hne
            have hnx := hF.out.next hne
            rw [(drop_head D i).1, (drop_head D i).2, ← HZ.out, ← HX.out, ← HY.out] at hst
            rw [(drop_head D i).1, (drop_head D i).2, ← HZ.out, ← HY.out] at hnx
            have cg := hL.out.cg i (by rw [← Hn.out]; exact hin)
            obtain ⟨d, hd⟩ : ∃ d, d = D.getD i 0 := ⟨_, rfl⟩
            have bd : d < 10 := by rw [hd]; exact getD_lt Hd.out.dig i
            rw [← hd] at cg hst hnx
            have Hdd := Lib.hid hd
            have Hst := Lib.hid hst
            have Hnx := Lib.hid hnx
            clear hst hnx hne hdne hd
            go_wp2_with (at_builtin; refine wpList_append_own _ rfl _ _ 73 rfl wc.heap.size 5 i0 (.int .u8 0) 1 1 Tryz.underlying73 hi hz0 hz1 hz2 rfl (by decide) _ _ _ rfl (hO.out.alloc _) ⟨wr.heap.size, 0, none⟩ 1 1 [.int .u8 (X : Int)] rfl rfl (cell_one_new _ _ _) (fun x hx => by simp at hx; subst hx; rfl) (by unfold maxLen; omega) (by omega) (by simp; omega) ?_; intro v' w3 hown' hgrow3 hnil3; have HP := Lib.hid (And.intro hown' hgrow3); clear hown' hgrow3 hnil3; have hL3 := (LD.app hL.out hO.out hwsz.1 hwsz.2 HP.out.2).c0; rw [← Hn.out] at hL3; have cg3 : w3.cell? ⟨g, i, none⟩ = some (.int .u8 (d : Int)) := by rw [Hdd.out]; exact (LD.app hL.out hO.out hwsz.1 hwsz.2 HP.out.2).cg i (by rw [← Hn.out]; exact hin))
            go_roundg f
            case measure => omega
            case rel =>
              refine ⟨i + 1, Y * 10 + d, O ++ [X], v', by go_num, by go_num, rfl, Lib.hid (LD.app hL.out hO.out hwsz.1 hwsz.2 HP.out.2), Lib.hid ?_, Lib.hid (Fr.app hB.out hO.out HP.out.2), Lib.hid ?_, Hnx, by omega, Lib.hid (by have := hlen2.out; simp; omega), by simp; omega, ?_⟩
              · have := HP.out.1
                simpa [u8s] using this
              · rw [← hE.out, Hst.out, List.append_assoc]; rfl
              · have := HP.out.2.size
                simp at this
                omega
        · by_cases hc0 : 0 < c
          · as_aux_lemma =>
              have hdn : D.drop i = [] := List.drop_eq_nil_of_le (by rw [← Hn.out]; omega)
              obtain ⟨f, rfl⟩ : ∃ f, gk = f + 1 := by
                cases gk with
                | zero => have := hF.out.zero.2; omega
                | succ f => exact ⟨f, rfl⟩
              have hne : ¬ (D.drop i = [] ∧ c = 0) := fun h => by omega
              have hst := hOut_step k f c (D.drop i) hne
              have hnx := hF.out.next hne
              rw [(drop_head D i).1, (drop_head D i).2, ← HZ.out, ← HX.out, ← HY.out] at hst
              rw [(drop_head D i).1, (drop_head D i).2, ← HZ.out, ← HY.out] at hnx
              have hg0 : D.getD i 0 = 0 := by rw [List.getD_eq_getElem?_getD, List.getElem?_eq_none (by rw [← Hn.out]; omega)]; rfl
              rw [hg0, Nat.add_zero] at hst hnx
              have Hst := Lib.hid hst
              have Hnx := Lib.hid hnx
              clear hst hnx hg0 hne hdn
              go_wp2_with (at_builtin; refine wpList_append_own _ rfl _ _ 73 rfl wc.heap.size 5 i0 (.int .u8 0) 1 1 Tryz.underlying73 hi hz0 hz1 hz2 rfl (by decide) _ _ _ rfl (hO.out.alloc _) ⟨wr.heap.size, 0, none⟩ 1 1 [.int .u8 (X : Int)] rfl rfl (cell_one_new _ _ _) (fun x hx => by simp at hx; subst hx; rfl) (by unfold maxLen; omega) (by omega) (by simp; omega) ?_; intro v' w3 hown' hgrow3 hnil3; have HP := Lib.hid (And.intro hown' hgrow3); clear hown' hgrow3 hnil3; have hL3 := (LD.app hL.out hO.out hwsz.1 hwsz.2 HP.out.2).c0; rw [← Hn.out] at hL3)
              go_roundg f
              case measure => omega
              case rel =>
                refine ⟨i + 1, Y * 10, O ++ [X], v', by go_num, by go_num, rfl, Lib.hid (LD.app hL.out hO.out hwsz.1 hwsz.2 HP.out.2), Lib.hid ?_, Lib.hid (Fr.app hB.out hO.out HP.out.2), Lib.hid ?_, Hnx, by omega, Lib.hid (by have := hlen2.out; simp; omega), by simp; omega, ?_⟩
                · have := HP.out.1
                  simpa [u8s] using this
                · rw [← hE.out, Hst.out, List.append_assoc]; rfl
                · have := HP.out.2.size
                  simp at this
                  omega
          · as_aux_lemma =>
              have e0 : c = 0 := by omega
              have hdn : D.drop i = [] := List.drop_eq_nil_of_le (by rw [← Hn.out]; omega)
              have hE2 := hE.out
              rw [hdn, e0, hOut_end, List.append_nil] at hE2
              have HE2 := Lib.hid hE2
              clear hE2 hdn hc0
              subst e0
              go_wp2_with fail
              go_meet
              exact ⟨_, rfl, hL.out, by rw [← HE2.out]; exact hO.out, hB.out, hsz⟩
    case rest =>
      obtain ⟨v, rfl, hL, hO, hB, hsz⟩ := hcut
      obtain ⟨r, hr1, hr2⟩ := halfO_cons Hd.out hk
      have hlO := halfO_len (k := k) (D := D)
      obtain ⟨L, hL'⟩ : ∃ L, L = halfO k D := ⟨_, rfl⟩
      rw [← hL'] at hO hlO
      have hne : L ≠ [] := by rw [hL', hr1]; simp
      have hhd : L.head? ≠ some 0 := by rw [hL', hr1]; simp only [List.head?_cons, ne_eq, Option.some.injEq]; omega
      have hLl : L.length ≤ 1000000 := by have := Hn.out; omega
      have hpos : 0 < L.length := List.length_pos_iff.2 hne
      rcases hO.2 with ⟨_, h0⟩ | ⟨g2, cap2, cur, rfl, hb2, _⟩
      · omega
      · have hb0 := hL.f 0
        have c0n := hL.c0
        have hLD := Lib.hid (LD.set hL hO (Nat.le_trans (Nat.le_of_lt (Nat.lt_of_le_of_lt hbB hwsz.1)) (Nat.le_refl _)) (by have := hwsz.1; omega))
        have Htrim := Lib.hid (ltrimW_any _ B b g2 cap2 L _ hLD.out hhd hne hLl)
        have HB := Lib.hid hB
        have HL' := Lib.hid hL'
        clear hL hO hB hhd hne hLl hL' hlO hr1 hr2 hpos hb2
        go_wp2_with fail
        refine Htrim.out.mono ?_
        rintro e w' ⟨rfl, hT, hTB⟩
        have HT := Lib.hid hT
        have HTB := Lib.hid hTB
        clear hT hTB
        go_wp2_with fail
        go_end0
        exact ⟨rfl, ⟨g2, cap2, by have := HT.out; rw [HL'.out] at this; exact this⟩, (HB.out.set 0 _).trans HTB.out⟩
end Go.Proofs.YtdfbokmjipdolaaGreatDoor
