/- The light decimal's double. -/
import Derived.Test.YtdfbokmjipdolaaGreatDoorD6
import Derived.Outline
set_option linter.unusedVariables false
set_option linter.unusedSimpArgs false
namespace Go.Proofs.YtdfbokmjipdolaaGreatDoor
open Go.RowKit

/-- the digits still to come behind m of them, the last first -/
def lrest (D : List Nat) (m : Nat) : List Nat := D.reverse.drop m
theorem lrest_nil (D : List Nat) (m : Nat) (h : D.length ≤ m) : lrest D m = [] := List.drop_eq_nil_of_le (by rw [List.length_reverse]; exact h)
theorem lrest_mem {D : List Nat} {m x : Nat} (h : x ∈ lrest D m) : x ∈ D := List.mem_reverse.1 (List.mem_of_mem_drop h)
theorem lrest_cons (D : List Nat) (m i : Nat) (h : D.length = i + 1 + m) : lrest D m = D.getD i 0 :: lrest D (m + 1) := by
  unfold lrest
  have hm : m < D.reverse.length := by rw [List.length_reverse]; omega
  rw [List.drop_eq_getElem_cons hm, List.getElem_reverse]
  congr 1
  rw [List.getD_eq_getElem?_getD, List.getElem?_eq_getElem (by omega), Option.getD_some]
  congr 1
  omega
theorem u8s_at (E : List Nat) (i : Nat) (h : i < E.length) : (u8s E)[i]? = some (.int .u8 (E.getD i 0 : Nat)) := by
  rw [u8s_get, List.getElem?_eq_getElem h, List.getD_eq_getElem?_getD, List.getElem?_eq_getElem h]; rfl
theorem u8s_set (E : List Nat) (i v : Nat) : (u8s E).set i (.int .u8 (v : Int)) = u8s (E.set i v) := by
  unfold u8s; rw [List.map_set]
/-- i pairs are exchanged -/
structure Sw (L E : List Nat) (i : Nat) : Prop where
  len : E.length = L.length
  at_ : ∀ p, p < L.length → E.getD p 0 = if p < i ∨ L.length ≤ p + i then L.getD (L.length - 1 - p) 0 else L.getD p 0
theorem Sw.start (L : List Nat) : Sw L L 0 := ⟨rfl, fun p hp => by rw [if_neg (by omega)]⟩
theorem getD_set (E : List Nat) (i v p : Nat) (h : i < E.length) : (E.set i v).getD p 0 = if p = i then v else E.getD p 0 := by
  rw [List.getD_eq_getElem?_getD, List.getElem?_set, List.getD_eq_getElem?_getD]
  by_cases h2 : i = p
  · subst h2; simp [h]
  · rw [if_neg h2, if_neg (Ne.symm h2)]
theorem Sw.next {L E : List Nat} {i J : Nat} (h : Sw L E i) (hJ : L.length = J + 1 + i) (hi : i < J) : Sw L ((E.set i (E.getD J 0)).set J (E.getD i 0)) (i + 1) := by
  have hl := h.len
  refine ⟨by simp [hl], fun p hp => ?_⟩
  rw [getD_set _ _ _ _ (by simp; omega), getD_set _ _ _ _ (by omega)]
  by_cases h1 : p = J
  · subst h1
    rw [if_pos rfl, if_pos (by omega), h.at_ i (by omega), if_neg (by omega)]
    congr 1; omega
  · rw [if_neg h1]
    by_cases h2 : p = i
    · subst h2
      rw [if_pos rfl, if_pos (by omega), h.at_ J (by omega), if_neg (by omega)]
      congr 1; omega
    · rw [if_neg h2, h.at_ p hp]
      by_cases h3 : p < i ∨ L.length ≤ p + i
      · rw [if_pos h3, if_pos (by omega)]
      · rw [if_neg h3, if_neg (by omega)]
theorem Sw.done {L E : List Nat} {i : Nat} (h : Sw L E i) (hi : L.length ≤ i + 1 + i) : E = L.reverse := by
  apply List.ext_getElem?
  intro p
  by_cases hp : p < L.length
  · have h1 := h.at_ p hp
    have h2 : E.getD p 0 = L.getD (L.length - 1 - p) 0 := by
      rw [h1]
      split
      · rfl
      · congr 1; omega
    rw [List.getD_eq_getElem?_getD, List.getD_eq_getElem?_getD, List.getElem?_eq_getElem (by rw [h.len]; exact hp), List.getElem?_eq_getElem (by omega)] at h2
    rw [List.getElem?_eq_getElem (by rw [h.len]; exact hp), List.getElem?_reverse hp, List.getElem?_eq_getElem (by omega)]
    exact congrArg some h2
  · rw [List.getElem?_eq_none (by rw [h.len]; omega), List.getElem?_eq_none (by rw [List.length_reverse]; omega)]
def dblL (k : Nat) (D : List Nat) : List Nat := dOut k (D.length + 18) 0 D.reverse

set_option maxRecDepth 100000 in
set_option maxHeartbeats 4000000 in
theorem dblW_any (w : World) (B b g cap : Nat) (D : List Nat) (dp : Int) (k : Nat) (h : LD w B b g cap D dp) (hd : LOk D) (hk0 : 1 ≤ k) (hk : k ≤ 59) (hlen : D.length ≤ 900000) (hdp : -1000000 ≤ dp) (hdp' : dp ≤ 1000000) :
    Calls Tryz.prog 91 #[.pointer (some ⟨b, 0, none⟩), .int .i64 k] w (HalfPost w B b (dblD k D) (dblP k D dp)) := by
  have H := Lib.hid h
  have c0 := h.c0
  have c1 := h.c1
  have hcap := h.capMax
  have hDl : 1 ≤ D.length := List.length_pos_iff.2 hd.ne
  obtain ⟨n, hn⟩ : ∃ n, n = D.length := ⟨_, rfl⟩
  rw [← hn] at c0 hcap hlen hDl
  have Hn := Lib.hid hn
  obtain ⟨Z, hZ⟩ : ∃ Z : Nat, Z = 2 ^ k := ⟨_, rfl⟩
  have bZ : Z ≤ 576460752303423488 := by rw [hZ]; exact Nat.pow_le_pow_right (n := 2) (by decide) hk
  have bZ0 : 0 < Z := by rw [hZ]; exact Nat.pow_pos (by decide)
  have eZ : (2 : Int) ^ k = Z := by rw [hZ]; push_cast; rfl
  have HZ := Lib.hid hZ
  have Hd := Lib.hid hd
  obtain ⟨i0, hi, hz0, hz1, hz2⟩ := info_parts info5
  have hwsz : b < w.heap.size ∧ g < w.heap.size := ⟨h.lt, h.glt.1⟩
  have hbB := h.hb
  have hgB := h.glt.2
  have hlO := dblO_len k D
  have hst0 := Lib.hid (dFin.start k D.reverse)
  clear h hn hZ hd
  go_enter Tryz.func91, Tryz.ntmps91
  go_upto_block 0 with fail
  go_cut [5] (fun s5 wx => ∃ v : Value, s5 = v ∧ LD wx B b g cap D dp ∧ wx.ownsRow w.heap.size 5 1 v (dblL k D).length (u8s (dblL k D)) ∧ Fr b w wx ∧ w.heap.size ≤ wx.heap.size)
  case first =>
    go_wp2_with fail
    go_loopg [4, 5, 6] (D.length + 18) (fun gm s4 s5 s6 wx => ∃ (c : Nat) (O : List Nat) (v : Value), s4 = .int .u64 c ∧ s5 = v ∧ s6 = .int .i64 ((n : Int) - 1 - O.length) ∧ Hid (LD wx B b g cap D dp) ∧ Hid (wx.ownsRow w.heap.size 5 1 v O.length (u8s O)) ∧ Hid (Fr b w wx) ∧ Hid (O ++ dOut k gm c (lrest D O.length) = dblL k D) ∧ Hid (dFin k gm c (lrest D O.length)) ∧ c < Z ∧ Hid (O.length + gm ≤ 900100) ∧ w.heap.size ≤ wx.heap.size)
    case atStart =>
      refine ⟨0, [], .slice none 0 0, rfl, rfl, vi (by simp), H, Lib.hid (World.ownsRow_nil _ _ _ _), Lib.hid (Fr.refl _ _), Lib.hid rfl, Lib.hid ?_, by omega, Lib.hid ?_, Nat.le_refl _⟩
      · have := hst0.out
        rw [List.length_reverse] at this
        exact this
      · rw [List.length_nil]; have := Hn.out; omega
    case round =>
      obtain ⟨c, O, v, rfl, rfl, rfl, hL, hO, hB, hE, hF, hc, hlen2, hsz⟩ := hrel
      have bO : O.length ≤ 900100 := by have := hlen2.out; omega
      have c0 := hL.out.c0
      rw [← Hn.out] at c0
      by_cases hx : O.length < n
      · as_aux_lemma =>
          obtain ⟨i, hi'⟩ : ∃ i : Nat, n = i + 1 + O.length := ⟨n - 1 - O.length, by omega⟩
          have hxi : (n : Int) - 1 - O.length = i := by omega
          rw [hxi]
          have hin : i < n := by omega
          have hrev : lrest D O.length = D.getD i 0 :: lrest D (O.length + 1) := lrest_cons D O.length i (by rw [← Hn.out]; exact hi')
          obtain ⟨f, rfl⟩ : ∃ f, gk = f + 1 := by
            cases gk with
            | zero => have := hF.out.zero.1; rw [hrev] at this; cases this
            | succ f => exact ⟨f, rfl⟩
          have hne : ¬ (lrest D O.length = [] ∧ c = 0) := by rw [hrev]; simp
          have hst := dOut_step k f c (lrest D O.length) hne
          have hnx := hF.out.next hk (fun x hx => Hd.out.dig x (lrest_mem hx))
          obtain ⟨d, hd⟩ : ∃ d, d = D.getD i 0 := ⟨_, rfl⟩
          have bd : d < 10 := by rw [hd]; exact getD_lt Hd.out.dig i
          have cg := hL.out.cg i (by rw [← Hn.out]; exact hin)
          rw [← hd] at cg hrev
          rw [hrev, List.headD_cons, List.tail_cons, ← HZ.out] at hst hnx
          obtain ⟨P, hP⟩ : ∃ P, P = d * Z := ⟨_, rfl⟩
          have bP : P ≤ 9 * Z := by rw [hP]; exact Nat.mul_le_mul_right _ (by omega)
          have eP : (d : Int) * (Z : Int) = P := by rw [hP]; push_cast; rfl
          rw [← hP] at hst hnx
          obtain ⟨X, hX⟩ : ∃ X, X = (c + P) % 10 := ⟨_, rfl⟩
          obtain ⟨Y, hY⟩ : ∃ Y, Y = (c + P) / 10 := ⟨_, rfl⟩
          have bX : X < 10 := by omega
          have eX : ((c : Int) + P) % 10 = X := by omega
          have eY : ((c : Int) + P) / 10 = Y := by omega
          have bY : Y < Z := by omega
          rw [← hX, ← hY] at hst
          rw [← hY] at hnx
          have Hst := Lib.hid (show dOut k (f + 1) c (lrest D O.length) = X :: dOut k f Y (lrest D (O.length + 1)) by rw [hrev]; exact hst)
          have Hnx := Lib.hid hnx
          have Hi := Lib.hid hi'
          clear hst hnx hne hrev hd hP hX hY hi' hxi
          go_wp2_with (at_builtin; refine wpList_append_own _ rfl _ _ 73 rfl w.heap.size 5 i0 (.int .u8 0) 1 1 Tryz.underlying73 hi hz0 hz1 hz2 rfl (by decide) _ _ _ rfl (hO.out.alloc _) ⟨wr.heap.size, 0, none⟩ 1 1 [.int .u8 (X : Int)] rfl rfl (cell_one_new _ _ _) (fun x hx => by simp at hx; subst hx; rfl) (by unfold maxLen; omega) (by omega) (by simp; omega) ?_; intro v' w3 hown' hgrow3 hnil3; have HP := Lib.hid (And.intro hown' hgrow3); clear hown' hgrow3 hnil3; have hL3 := (LD.app hL.out hO.out hwsz.1 hwsz.2 HP.out.2).c0; rw [← Hn.out] at hL3)
          go_roundg f
          case measure => omega
          case rel =>
            refine ⟨Y, O ++ [X], v', by go_num, rfl, vi (by have := Hi.out; simp; omega), Lib.hid (LD.app hL.out hO.out hwsz.1 hwsz.2 HP.out.2), Lib.hid ?_, Lib.hid (Fr.app hB.out hO.out HP.out.2), Lib.hid ?_, Lib.hid (by rw [List.length_append]; exact Hnx.out), by omega, Lib.hid (by have := hlen2.out; simp; omega), ?_⟩
            · have := HP.out.1
              simpa [u8s] using this
            · rw [← hE.out, Hst.out, List.append_assoc, List.length_append]; rfl
            · have := HP.out.2.size
              simp at this
              omega
      · have hx' : (n : Int) - 1 - O.length < 0 := by omega
        by_cases hc0 : 0 < c
        · as_aux_lemma =>
            have hrev : lrest D O.length = [] := lrest_nil D O.length (by rw [← Hn.out]; omega)
            have hrev2 : lrest D (O.length + 1) = [] := lrest_nil D _ (by rw [← Hn.out]; omega)
            obtain ⟨f, rfl⟩ : ∃ f, gk = f + 1 := by
              cases gk with
              | zero => have := hF.out.zero.2; omega
              | succ f => exact ⟨f, rfl⟩
            have hne : ¬ (lrest D O.length = [] ∧ c = 0) := fun h => by omega
            have hst : dOut k (f + 1) c (lrest D O.length) = c % 10 :: dOut k f (c / 10) (lrest D (O.length + 1)) := by rw [dOut_step k f c _ hne, hrev, hrev2]; simp
            have hnx : dFin k f (c / 10) (lrest D (O.length + 1)) := by
              have := hF.out.next hk (fun x hx => Hd.out.dig x (lrest_mem hx))
              rw [hrev] at this
              rw [hrev2]
              simpa using this
            obtain ⟨X, hX⟩ : ∃ X, X = c % 10 := ⟨_, rfl⟩
            obtain ⟨Y, hY⟩ : ∃ Y, Y = c / 10 := ⟨_, rfl⟩
            have bX : X < 10 := by omega
            have eX : (c : Int) % 10 = X := by omega
            have eY : (c : Int) / 10 = Y := by omega
            have bY : Y < Z := by omega
            rw [← hX, ← hY] at hst
            rw [← hY] at hnx
            have Hst := Lib.hid (show dOut k (f + 1) c (lrest D O.length) = X :: dOut k f Y (lrest D (O.length + 1)) from hst)
            have Hnx := Lib.hid hnx
            clear hst hnx hne hrev hrev2 hX hY
            go_wp2_with (at_builtin; refine wpList_append_own _ rfl _ _ 73 rfl w.heap.size 5 i0 (.int .u8 0) 1 1 Tryz.underlying73 hi hz0 hz1 hz2 rfl (by decide) _ _ _ rfl (hO.out.alloc _) ⟨wr.heap.size, 0, none⟩ 1 1 [.int .u8 (X : Int)] rfl rfl (cell_one_new _ _ _) (fun x hx => by simp at hx; subst hx; rfl) (by unfold maxLen; omega) (by omega) (by simp; omega) ?_; intro v' w3 hown' hgrow3 hnil3; have HP := Lib.hid (And.intro hown' hgrow3); clear hown' hgrow3 hnil3; have hL3 := (LD.app hL.out hO.out hwsz.1 hwsz.2 HP.out.2).c0; rw [← Hn.out] at hL3)
            go_roundg f
            case measure => omega
            case rel =>
              refine ⟨Y, O ++ [X], v', by go_num, rfl, vi (by simp; omega), Lib.hid (LD.app hL.out hO.out hwsz.1 hwsz.2 HP.out.2), Lib.hid ?_, Lib.hid (Fr.app hB.out hO.out HP.out.2), Lib.hid ?_, Lib.hid (by rw [List.length_append]; exact Hnx.out), by omega, Lib.hid (by have := hlen2.out; simp; omega), ?_⟩
              · have := HP.out.1
                simpa [u8s] using this
              · rw [← hE.out, Hst.out, List.append_assoc, List.length_append]; rfl
              · have := HP.out.2.size
                simp at this
                omega
        · as_aux_lemma =>
            have e0 : c = 0 := by omega
            have hrev : lrest D O.length = [] := lrest_nil D O.length (by rw [← Hn.out]; omega)
            have hE2 := hE.out
            rw [hrev, e0, dOut_end, List.append_nil] at hE2
            have HE2 := Lib.hid hE2
            clear hE2 hrev hc0
            subst e0
            go_wp2_with fail
            go_meet
            exact ⟨_, rfl, hL.out, by rw [← HE2.out]; exact hO.out, hB.out, hsz⟩
  case rest =>
    obtain ⟨v, rfl, hL, hO, hB, hsz⟩ := hcut
    obtain ⟨L, hL'⟩ : ∃ L, L = dblL k D := ⟨_, rfl⟩
    have hLO : dblO k D = L.reverse := by rw [hL']; rfl
    rw [← hL'] at hO
    have hne : L ≠ [] := by
      intro h0
      exact dblO_ne Hd.out hk (by rw [hLO, h0]; rfl)
    have hpos : 0 < L.length := List.length_pos_iff.2 hne
    have hLl : L.length ≤ D.length + 18 := by rw [hLO, List.length_reverse] at hlO; exact hlO
    obtain ⟨m, hm⟩ : ∃ m, m = L.length := ⟨_, rfl⟩
    rw [← hm] at hO hpos hLl
    rcases hO.2 with ⟨_, h0⟩ | ⟨g2, cap2, cur, rfl, hb2, _, hmc, hcm, _⟩
    · omega
    · have bm : m ≤ 900018 := by have := Hn.out; omega
      have bc2 : cap2 ≤ 9223372036854775807 := by unfold maxLen at hcm; exact hcm
      have HM := Lib.hid hm
      have HLO := Lib.hid hLO
      have HP2 := Lib.hid (show dblP k D dp = dp + ((m : Int) - n) by unfold dblP; rw [hLO, List.length_reverse, ← hm, ← Hn.out]; omega)
      have HL := Lib.hid hL
      have HO := Lib.hid hO
      have HB := Lib.hid hB
      have c0' := hL.c0
      have c1' := hL.c1
      have f1' := hL.f 1
      rw [← Hn.out] at c0'
      clear c0 c1 hL hO hB hL' hLO hne hlO hLl hm hst0 hcm
      go_wp2_with fail
      go_cut [7] (fun s7 wx => Hid (LD wx B b g cap D (dblP k D dp)) ∧ Hid (wx.ownsRow w.heap.size 5 1 (.slice (some ⟨g2, 0, none⟩) m cap2) m (u8s L)) ∧ Hid (Fr b w wx) ∧ w.heap.size ≤ wx.heap.size)
      case first =>
        as_aux_lemma =>
          go_region
          all_goals
            go_wp2_with fail
            go_meet
            refine ⟨Lib.hid ?_, Lib.hid ?_, Lib.hid (Fr.setB HB.out _ 1), by simp; omega⟩
            · rw [HP2.out]; exact (HL.out.setDp _).drewN 1
            · exact HO.out.kept (row := some b) ⟨rfl, rfl, rfl, by simp, fun k _ hk => heap_setCell_other wc ⟨b, 1, none⟩ k _ (fun e => hk (by simp [e]))⟩ (Or.inr (by
                show some g2 ≠ some b
                simp; omega))
      case rest =>
        obtain ⟨HL1, HO1, HB1, hsz1⟩ := hcut
        clear c0' c1' f1'
        go_wp2_with fail
        go_loopg [7, 8] m (fun gm s7 s8 wx => ∃ (i : Nat) (E : List Nat), gm = m - i ∧ i ≤ m ∧ s7 = .int .i64 i ∧ s8 = .int .i64 ((m : Int) - 1 - i) ∧ Hid (Sw L E i) ∧ Hid (LD wx B b g cap D (dblP k D dp)) ∧ Hid (wx.ownsRow w.heap.size 5 1 (.slice (some ⟨g2, 0, none⟩) m cap2) m (u8s E)) ∧ Hid (Fr b w wx) ∧ w.heap.size ≤ wx.heap.size)
        case atStart => exact ⟨0, L, rfl, Nat.zero_le _, rfl, vi (by simp), Lib.hid (Sw.start L), HL1, HO1, HB1, hsz1⟩
        case round =>
          obtain ⟨i, E, hg, him, rfl, rfl, HS, HL2, HO2, HB2, hsz2⟩ := hrel
          have Hg := Lib.hid hg
          clear hg
          by_cases hij : i + 1 + i < m
          · obtain ⟨J, hJ⟩ : ∃ J, m = J + 1 + i := ⟨m - 1 - i, by omega⟩
            have eJ : (m : Int) - 1 - i = J := by omega
            rw [eJ]
            have hiJ : i < J := by omega
            have ci := HO2.out.cellAt i (by omega)
            have cJ := HO2.out.cellAt J (by omega)
            have hEl : E.length = m := by rw [HS.out.len, ← HM.out]
            rw [u8s_at E i (by omega)] at ci
            rw [u8s_at E J (by omega)] at cJ
            have fi := HO2.out.frozenAt i
            have fJ := HO2.out.frozenAt J
            obtain ⟨x, hx⟩ : ∃ x, x = E.getD i 0 := ⟨_, rfl⟩
            obtain ⟨y, hy⟩ : ∃ y, y = E.getD J 0 := ⟨_, rfl⟩
            rw [← hx] at ci
            rw [← hy] at cJ
            have Hx := Lib.hid hx
            have Hy := Lib.hid hy
            have HJ := Lib.hid hJ
            have HEl := Lib.hid hEl
            have bJ : J < m := by omega
            clear hx hy hJ eJ hEl
            go_wp2_with fail
            go_region
            all_goals
              go_wp2_with fail
              go_roundg (m - (i + 1))
              case measure => have := Hg.out; omega
              case rel =>
                have s1 := HO2.out.stored i (.int .u8 (y : Int))
                have s2 := s1.1.stored J (.int .u8 (x : Int))
                refine ⟨i + 1, (E.set i y).set J x, rfl, by omega, by go_num, vi (by have := HJ.out; omega), Lib.hid ?_, Lib.hid ?_, Lib.hid ?_, Lib.hid ?_, by simp; omega⟩
                · rw [Hx.out, Hy.out]
                  exact HS.out.next (by rw [← HM.out]; exact HJ.out) hiJ
                · exact ((HL2.out.grown s1.2 (by simp; omega) (by simp; omega)).grown s2.2 (by simp; omega) (by simp; omega)).drewN 1
                · have := s2.1
                  rw [u8s_set, u8s_set] at this
                  exact this
                · exact Fr.dr ((HB2.out.row hb2 i _).row hb2 J _) 1
          · have hE := HS.out.done (by rw [← HM.out]; omega)
            have hE2 : dblO k D = E := by rw [hE]; exact HLO.out
            have hOr := HO2.out
            have hmE : m = E.length := by rw [hE, List.length_reverse]; exact HM.out
            rw [hmE] at hOr
            have hLD := Lib.hid (LD.set HL2.out hOr (by omega) (by omega))
            have hne2 : E ≠ [] := by rw [← hE2]; exact dblO_ne Hd.out hk
            have hhd : E.head? ≠ some 0 := by rw [← hE2]; exact dblO_lead Hd.out hk
            have Htrim := Lib.hid (ltrimW_any _ B b g2 cap2 E _ hLD.out hhd hne2 (by omega))
            rw [← hmE] at Htrim
            have HE2 := Lib.hid hE2
            have c0' := HL2.out.c0
            have f0' := HL2.out.f 0
            clear hE hE2 hOr hmE hne2 hhd
            go_wp2_with fail
            refine Htrim.out.mono ?_
            rintro e w' ⟨rfl, hT, hTB⟩
            have HT := Lib.hid hT
            have HTB := Lib.hid hTB
            clear hT hTB
            go_wp2_with fail
            go_end0
            exact ⟨rfl, ⟨g2, cap2, by have := HT.out; rw [← HE2.out] at this; exact this⟩, (HB2.out.set 0 _).trans HTB.out⟩
end Go.Proofs.YtdfbokmjipdolaaGreatDoor
